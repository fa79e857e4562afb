/-
  Seat b6600123a: the walks of reservedAt, isReserved, group.
-/
import Derived.Test.Qxb6600123aGroupParts
namespace Go.Proofs.Qxb6600123a
open Go.RowKit Go.Deep Go.Maps
set_option linter.unusedVariables false

theorem reservedAt_any (ra : Option Addr) (rn rc u B : Nat) (R : Nat → Bool) (w : World) (hu : u ≤ 1048576) (hrn : rn ≤ 1048576) (hin : In B w ra rn rc (fun i => .bool (R i))) :
    Calls Try.prog 25 #[.slice ra rn rc, .int .i64 u] w fun e w' => e = .returned (.bool (resAt rn R u)) ∧ w' = w := by
  by_cases hlt : u < rn
  · obtain ⟨b, off, rfl, _, hc⟩ := hin.cell u hlt
    have e : resAt rn R u = R u := by simp [resAt, hlt]
    rw [e]
    clear hin e
    go_enter Try.func25, Try.ntmps25
    go_wp2
    go_ret
    exact ⟨rfl, rfl⟩
  · have e : resAt rn R u = false := by simp [resAt, hlt]
    rw [e]
    clear hin e
    go_enter Try.func25, Try.ntmps25
    go_wp2
    go_ret
    exact ⟨rfl, rfl⟩

theorem isReserved_any (P : Nat) (ra : Option Addr) (rn rc u B : Nat) (R : Nat → Bool) (w : World) (hu : u ≤ 1048576) (hrn : rn ≤ 1048576) (c3 : w.cell? ⟨P, 3, none⟩ = some (.slice ra rn rc)) (hin : In B w ra rn rc (fun i => .bool (R i))) :
    Calls Try.prog 43 #[.pointer (some ⟨P, 0, none⟩), .int .i64 u] w fun e w' => e = .returned (.bool (resAt rn R u)) ∧ w' = w := by
  by_cases hlt : u < rn
  · obtain ⟨b, off, rfl, _, hc⟩ := hin.cell u hlt
    have e : resAt rn R u = R u := by simp [resAt, hlt]
    rw [e]
    clear hin e
    go_enter Try.func43, Try.ntmps43
    go_wp2
    go_ret
    exact ⟨rfl, rfl⟩
  · have e : resAt rn R u = false := by simp [resAt, hlt]
    rw [e]
    clear hin e
    go_enter Try.func43, Try.ntmps43
    go_wp2
    go_ret
    exact ⟨rfl, rfl⟩

theorem law58 : Keyed Try.prog 58 := int_keyed Try.underlying58
theorem zero3 (w : World) : (zeroValue 3).run Try.prog w = .ok (.int .i64 0) w := by kernel_rfl
theorem info64 : (Try.prog.info? 64).map (fun i => (i.zero, i.size, i.bytes)) = some (some (.agg #[.int .u64 0, .int .i64 0, .int .i64 0]), 3, 24) := by kernel_rfl

/-- 'v, ok := m[k]' where both are known. -/
theorem wpList_lookup_known {H : Type} {P : Program} (w : World) {ops : Array Oper} {rest : List Oper} {o : Oper} {a : Act} {Q : Exit → Act → World → Prop}
    (hg : o.guard = none) (m x : Operand) (t : TypeId) (hop : o.op = Op.lookup t m x true)
    (k e : TypeId) (q : IntKind) (K : Keyed P k) (ht : P.underlying t = some (.map k e)) (he : P.underlying e = some (.int q)) (hz : (zeroValue e).run P w = .ok (.int q 0) w) (b n : Nat) (D : DataW H)
    (hm : a.eval m = .map (some b)) (hown : w.ownsMap P k (plainElem P e) b n D) (key : Value) (kl : Lit) (hx : a.eval x = key) (hkey : keyOf P k key = some kl)
    (c0 : Int) (b0 : Bool) (hat0 : D.atKey kl (.lit (.int q 0)) = .lit (.int q c0)) (hb0 : Maps.has D kl = b0)
    (hK : wpList P ops Q rest (a.put o.dst (.tuple #[.int q c0, .bool b0])) w) : wpList P ops Q (o :: rest) a w := by
  refine wpList_lookup_own_ok_int w hg m x t hop k e q K ht he hz b n D hm hown key kl hx hkey (fun c hat _ => ?_)
  rw [hat0] at hat
  simp only [DataW.lit.injEq, Lit.int.injEq, true_and] at hat
  subst hat
  rw [hb0]
  exact hK

theorem GI.mono {w wr : World} {P B n m m' : Nat} {vL vF vR vG : Value} {D : DataW Unit} {gs : List Tal} {ofs : List Int} (h : GI w P B n vL vF vR m wr vG D gs ofs) (hm : m ≤ m') : GI w P B n vL vF vR m' wr vG D gs ofs :=
  { h with map := h.map.mono hm }

theorem GI.start (w : World) (P n : Nat) (vL vF vR : Value) (hP : w.rowIs P 62 7 (pf vL vF vR (.slice none 0 0) (.slice none 0 0))) :
    GI w P w.heap.size n vL vF vR 0 (((w.setCell ⟨P, 6, none⟩ (.slice (some ⟨w.heap.size, 0, none⟩) n n)).alloc (.cells (madeCells #[.int .i64 0] n) 3)).alloc (.map #[] 0)) (.slice none 0 0) (.map []) [] [] := by
  have e : (w.setCell ⟨P, 6, none⟩ (.slice (some ⟨w.heap.size, 0, none⟩) n n)).heap.size = w.heap.size := by simp [World.setCell]
  exact {
    pool := (((hP.set 6 _).congr (fun j _ => pf_set6 _ _ _ _ _ _ j)).alloc _).alloc _
    grp := World.ownsRow_nil _ _ _ _
    ofr := by
      have := (World.rowIs_made (w.setCell ⟨P, 6, none⟩ (.slice (some ⟨w.heap.size, 0, none⟩) n n)) (.int .i64 0) n 3).alloc (.map #[] 0)
      rw [e] at this
      exact this.congr (fun j _ => by simp)
    map := by
      have := World.ownsMap_made (H := Unit) ((w.setCell ⟨P, 6, none⟩ (.slice (some ⟨w.heap.size, 0, none⟩) n n)).alloc (.cells (madeCells #[.int .i64 0] n) 3)) Try.prog 58 (plainElem Try.prog 3)
      rw [show ((w.setCell ⟨P, 6, none⟩ (.slice (some ⟨w.heap.size, 0, none⟩) n n)).alloc (.cells (madeCells #[.int .i64 0] n) 3)).heap.size = w.heap.size + 1 by simp] at this
      exact this
    ok := mapOk_start
    below := (((Below.refl P w).setCell (p := ⟨P, 6, none⟩) (Nat.le_refl _) (.slice (some ⟨w.heap.size, 0, none⟩) n n)).alloc (by have := hP.lt; rw [e]; omega) _).alloc (by have := hP.lt; simp; omega) _
    size := by simp
    lt := hP.lt }

set_option maxRecDepth 100000 in
set_option maxHeartbeats 800000 in
theorem group_any (P gL n : Nat) (L : Nat → Int) (F R : Nat → Bool) (fa : Option Addr) (fn fc : Nat) (ra : Option Addr) (rn rc : Nat) (w : World) (hn : n ≤ 4096) (hfn : n ≤ fn) (hfm : fn ≤ 1048576) (hrn : rn ≤ 1048576)
    (hwf : ∀ i, i < n → (Lit.int .u64 (L i)).wf = true)
    (hP : w.rowIs P 62 7 (pf (.slice (some ⟨gL, 0, none⟩) n n) (.slice fa fn fc) (.slice ra rn rc) (.slice none 0 0) (.slice none 0 0)))
    (hL : w.rowIs gL 58 n (fun i => .int .u64 (L i))) (hgL : gL < P) (hF : In P w fa fn fc (fun i => .bool (F i))) (hR : In P w ra rn rc (fun i => .bool (R i))) :
    Calls Try.prog 40 #[.pointer (some ⟨P, 0, none⟩)] w fun e w' => e = .returned (.tuple #[]) ∧
      ∃ vG D, GI w P w.heap.size n (.slice (some ⟨gL, 0, none⟩) n n) (.slice fa fn fc) (.slice ra rn rc) n w' vG D (gst L F (resAt rn R) n).gs (gst L F (resAt rn R) n).ofs := by
  have hmk := run_make_row' (P := Try.prog) 22 3 (.int .i64 0) 8 Try.underlying22 info3 rfl .i64 .i64 n (by omega) (by omega)
  have hmm := @run_makeMap Try.prog
  obtain ⟨i0, hi, hz0, hz1, hz2⟩ := info_parts info64
  have c1 : w.cell? ⟨P, 1, none⟩ = some (.slice (some ⟨gL, 0, none⟩) n n) := hP.cell (by omega)
  have c6 : ∀ o, (w.alloc o).cell? ⟨P, 6, none⟩ = some (.slice none 0 0) := fun o => (hP.alloc o).cell (by omega)
  have f6 : ∀ o, (w.alloc o).frozen? ⟨P, 6, none⟩ = false := fun o => (hP.alloc o).frozen 6
  have hPl := hP.lt
  go_enter Try.func40, Try.ntmps40
  go_wp2
  go_loopw [22] (fun i wr => ∃ k vG D, k ≤ n ∧ i = .int .i64 (k : Nat) ∧ GI w P w.heap.size n (.slice (some ⟨gL, 0, none⟩) n n) (.slice fa fn fc) (.slice ra rn rc) k wr vG D (gst L F (resAt rn R) k).gs (gst L F (resAt rn R) k).ofs)
    (fun i _ => n - (intOf i).toNat)
  case atStart => exact ⟨0, _, _, Nat.zero_le _, rfl, GI.start w P n _ _ _ hP⟩
  case round =>
    obtain ⟨k, vG, D, hk, rfl, hgi⟩ := hrel
    have hlo := len_ofs L F (resAt rn R) k
    have cr : wr.cell? ⟨P, 3, none⟩ = some (.slice ra rn rc) := hgi.pool.cell (by omega)
    have hRr : In P wr ra rn rc (fun i => .bool (R i)) := hR.later hgi.below
    by_cases hlt : k < n
    · have cl : wr.cell? ⟨gL, k, none⟩ = some (.int .u64 (L k)) := (hgi.below.cell (p := ⟨gL, k, none⟩) hgL).trans (hL.cell hlt)
      have co : wr.cell? ⟨P, 6, none⟩ = some (.slice (some ⟨w.heap.size, 0, none⟩) n n) := hgi.pool.cell (by omega)
      obtain ⟨z0, cz⟩ : ∃ z0, wr.cell? ⟨w.heap.size, k, none⟩ = some (.int .i64 z0) := ⟨_, hgi.ofr.cell hlt⟩
      have fo : wr.frozen? ⟨w.heap.size, k, none⟩ = false := hgi.ofr.frozen k
      by_cases hres : resAt rn R k = true
      · have G1 := (hgi.setOf (-1)).mono (Nat.le_succ k)
        rw [hlo] at G1
        have HG : Hid (GI w P w.heap.size n (.slice (some ⟨gL, 0, none⟩) n n) (.slice fa fn fc) (.slice ra rn rc) (k + 1) (wr.setCell ⟨w.heap.size, k, none⟩ (.int .i64 (-1))) vG D (gst L F (resAt rn R) (k + 1)).gs (gst L F (resAt rn R) (k + 1)).ofs) := by
          rw [gst_succ_res L F (resAt rn R) k hres]; exact G1
        clear G1 hgi
        go_wp2_with (go_at_call 43; refine (isReserved_any P ra rn rc k P R _ (by omega) (by omega) (by assumption) (by assumption)).mono ?_; rintro e w' ⟨rfl, rfl⟩)
        go_roundw
        case rel => exact ⟨k + 1, _, _, by omega, by go_num, HG.out⟩
        case measure => simp [intOf]; omega
      · have hres' : resAt rn R k = false := by simpa using hres
        clear hres
        obtain ⟨bf, off, efa, hbf, cf0⟩ := hF.cell k (by omega)
        subst efa
        have cf1 : wr.cell? ⟨P, 2, none⟩ = some (.slice (some ⟨bf, off, none⟩) fn fc) := hgi.pool.cell (by omega)
        have cf2 : wr.cell? ⟨bf, off + k, none⟩ = some (.bool (F k)) := (hgi.below.cell (p := ⟨bf, off + k, none⟩) hbf).trans cf0
        have hkey : keyOf Try.prog 58 (.int .u64 (L k)) = some (.int .u64 (L k)) := keyOf_int_mk Try.underlying58 (hwf k hlt)
        have hmo := hgi.ok (L k)
        have hcnt := counts L F (resAt rn R) k
        have hgl := len_gs_le L F (resAt rn R) k
        have hstep := gst_succ L F (resAt rn R) k hres'
        have HS : Hid (gst L F (resAt rn R) (k + 1) = ⟨bumpF (bumpI (addN (gst L F (resAt rn R) k).gs (L k)) (idx (gst L F (resAt rn R) k).gs (L k))) (idx (gst L F (resAt rn R) k).gs (L k)) (F k), (gst L F (resAt rn R) k).ofs ++ [(idx (gst L F (resAt rn R) k).gs (L k) : Int)]⟩) := hstep
        clear hstep
        generalize (gst L F (resAt rn R) k).gs = gs at hgi hmo hcnt hgl HS
        generalize (gst L F (resAt rn R) k).ofs = ofs at hgi hlo HS
        obtain ⟨q, hq⟩ : ∃ q, q = idx gs (L k) := ⟨_, rfl⟩
        rw [← hq] at hmo HS
        by_cases hnew : q < gs.length
        · obtain ⟨g, cap, hv, hg, hglt⟩ := hgi.grp.form (by omega)
          subst hv
          have hfl := flat_at gs q hnew
          have cg1 : wr.cell? ⟨g, q * 3 + 1, none⟩ = some (.int .i64 (tal gs q).inst) := by rw [hgi.grp.cellAt _ (by omega)]; exact hfl.2.1
          have cg2 : wr.cell? ⟨g, q * 3 + 2, none⟩ = some (.int .i64 (tal gs q).fre) := by rw [hgi.grp.cellAt _ (by omega)]; exact hfl.2.2
          have fg1 : wr.frozen? ⟨g, q * 3 + 1, none⟩ = false := hgi.grp.frozenAt _
          have fg2 : wr.frozen? ⟨g, q * 3 + 2, none⟩ = false := hgi.grp.frozenAt _
          have cp5 : wr.cell? ⟨P, 5, none⟩ = some (.slice (some ⟨g, 0, none⟩) gs.length cap) := hgi.pool.cell (by omega)
          have hat0 : D.atKey (.int .u64 (L k)) (.lit (.int .i64 0)) = .lit (.int .i64 (q : Int)) := by rw [hmo.2, if_pos hnew]
          have hb0 : Maps.has D (.int .u64 (L k)) = true := by rw [hmo.1]; simpa using hnew
          have hcq := hcnt q
          have e1 : addN gs (L k) = gs := by unfold addN; rw [← hq, if_pos hnew]
          rw [e1] at HS
          have G1 := hgi.bumpI q hnew hg
          have hmap := hgi.map
          have hPl2 := hgi.lt
          by_cases hfk : F k = true
          · have G2 := ((G1.bumpF q (by rw [len_bumpI]; exact hnew) hg).setOf (q : Int)).mono (Nat.le_succ k)
            have e2 : (tal (bumpI gs q) q).fre = (tal gs q).fre := by rw [tal_bumpI gs q q hnew, if_pos rfl]
            rw [hlo, e2] at G2
            have HG : Hid (GI w P w.heap.size n (.slice (some ⟨gL, 0, none⟩) n n) (.slice (some ⟨bf, off, none⟩) fn fc) (.slice ra rn rc) (k + 1) (((wr.setCell ⟨g, q * 3 + 1, none⟩ (.int .i64 ((tal gs q).inst + 1))).setCell ⟨g, q * 3 + 2, none⟩ (.int .i64 ((tal gs q).fre + 1))).setCell ⟨w.heap.size, k, none⟩ (.int .i64 q)) (.slice (some ⟨g, 0, none⟩) (bumpF (bumpI gs q) q true).length cap) D (gst L F (resAt rn R) (k + 1)).gs (gst L F (resAt rn R) (k + 1)).ofs) := by
              have := HS.out
              rw [this, hfk]; exact G2
            clear G1 G2 e1 e2 HS hcnt hmo hfl hgi hq hlo
            generalize (tal gs q).inst = ci at cg1 hcq HG
            generalize (tal gs q).fre = cf at cg2 hcq HG
            generalize gs.length = gl at *
            go_wp2_with (first | (go_at_call 43; refine (isReserved_any P ra rn rc k P R _ (by omega) (by omega) (by assumption) (by assumption)).mono ?_; rintro e w' ⟨rfl, rfl⟩) | (at_lookup; refine wpList_lookup_known _ rfl _ _ 69 rfl 58 3 .i64 law58 Try.underlying69 Try.underlying3 (zero3 _) (w.heap.size + 1) k D rfl hmap _ _ rfl hkey (q : Int) true hat0 hb0 ?_))
            go_roundw
            case rel => exact ⟨k + 1, _, _, by omega, by go_num, HG.out⟩
            case measure => simp [intOf]; omega
          · have hfk' : F k = false := by simpa using hfk
            clear hfk
            have G2 := (G1.setOf (q : Int)).mono (Nat.le_succ k)
            rw [hlo] at G2
            have HG : Hid (GI w P w.heap.size n (.slice (some ⟨gL, 0, none⟩) n n) (.slice (some ⟨bf, off, none⟩) fn fc) (.slice ra rn rc) (k + 1) ((wr.setCell ⟨g, q * 3 + 1, none⟩ (.int .i64 ((tal gs q).inst + 1))).setCell ⟨w.heap.size, k, none⟩ (.int .i64 q)) (.slice (some ⟨g, 0, none⟩) (bumpI gs q).length cap) D (gst L F (resAt rn R) (k + 1)).gs (gst L F (resAt rn R) (k + 1)).ofs) := by
              have := HS.out
              rw [this, hfk', bumpF_false]; exact G2
            clear G1 G2 e1 HS hcnt hmo hfl hgi hq hlo
            generalize (tal gs q).inst = ci at cg1 hcq HG
            generalize (tal gs q).fre = cf at cg2 hcq HG
            generalize gs.length = gl at *
            go_wp2_with (first | (go_at_call 43; refine (isReserved_any P ra rn rc k P R _ (by omega) (by omega) (by assumption) (by assumption)).mono ?_; rintro e w' ⟨rfl, rfl⟩) | (at_lookup; refine wpList_lookup_known _ rfl _ _ 69 rfl 58 3 .i64 law58 Try.underlying69 Try.underlying3 (zero3 _) (w.heap.size + 1) k D rfl hmap _ _ rfl hkey (q : Int) true hat0 hb0 ?_))
            go_roundw
            case rel => exact ⟨k + 1, _, _, by omega, by go_num, HG.out⟩
            case measure => simp [intOf]; omega
        · have hql := idx_le gs (L k)
          rw [← hq] at hql
          obtain rfl : q = gs.length := by omega
          obtain ⟨ao, cap, hv⟩ : ∃ ao cap, vG = .slice ao gs.length cap := by
            rcases hgi.grp.2 with ⟨h, h0⟩ | ⟨g, cap, _, h, _⟩
            · exact ⟨none, 0, by rw [h, h0]⟩
            · exact ⟨_, cap, h⟩
          have hvb : ∀ j, j < w.heap.size + 2 → some j ≠ vG.ownBlock := fun j hj e => by have := (hgi.grp.lt j e.symm).1; omega
          have hgrp := hgi.grp
          have hmap := hgi.map
          have hPl2 := hgi.lt
          have hsz := hgi.size
          have hat0 : D.atKey (.int .u64 (L k)) (.lit (.int .i64 0)) = .lit (.int .i64 0) := by rw [hmo.2, if_neg hnew]
          have hb0 : Maps.has D (.int .u64 (L k)) = false := by rw [hmo.1]; simp [hnew]
          have cp5 : wr.cell? ⟨P, 5, none⟩ = some (.slice ao gs.length cap) := by rw [← hv]; exact hgi.pool.cell (by omega)
          have e1 : addN gs (L k) = gs ++ [⟨L k, 0, 0⟩] := by unfold addN; rw [← hq, if_neg hnew]
          rw [e1] at HS
          have hnx : ¬ idx gs (L k) < gs.length := by omega
          have HI : Hid (GI w P w.heap.size n (.slice (some ⟨gL, 0, none⟩) n n) (.slice (some ⟨bf, off, none⟩) fn fc) (.slice ra rn rc) k wr vG D gs ofs) := hgi
          have hb1 := hgi.below
          clear hgi hmo hcnt hq e1
          subst hv
          go_wp2_with (first | (go_at_call 43; refine (isReserved_any P ra rn rc k P R _ (by omega) (by omega) (by assumption) (by assumption)).mono ?_; rintro e w' ⟨rfl, rfl⟩) | (at_lookup; refine wpList_lookup_known _ rfl _ _ 69 rfl 58 3 .i64 law58 Try.underlying69 Try.underlying3 (zero3 _) (w.heap.size + 1) k D rfl hmap _ _ rfl hkey 0 false hat0 hb0 ?_) | (at_mapUpdate; refine wpList_mapUpdate_own _ rfl _ _ _ 69 rfl 58 3 law58 Try.underlying69 (plainElem (H := Unit) Try.prog 3) (w.heap.size + 1) k D rfl hmap (by unfold maxLen; omega) _ _ _ rfl rfl hkey _ [] (plainElem_int Try.underlying3 (WalkArith.wf_i64 (by omega))) ?_))
          intro w1 hm1 hg1
          have s1 := hg1.size
          have d1 : w1.cell? ⟨P, 5, none⟩ = some (.slice ao gs.length cap) := hg1.cell cp5 (by simp; omega)
          have hgrp1 := (hgrp.kept hg1 (Or.inr (hvb _ (by omega)).symm))
          go_wp2_with (at_builtin; refine wpList_append_lies _ rfl _ _ 60 rfl (w.heap.size + 2) 64 i0 (.agg #[.int .u64 0, .int .i64 0, .int .i64 0]) 3 24 Try.underlying60 hi hz0 hz1 hz2 rfl (by decide) _ gs.length (flat gs) rfl (hgrp1.alloc _) ⟨w1.heap.size, 0, none⟩ 1 1 [.int .u64 (L k), .int .i64 0, .int .i64 0] rfl rfl ?n1 ?n2 (by omega) ?n3 ?n4 ?n5 (w1.heap.size + 1) (by simp) ?_)
          case n1 => exact World.news_of_block (heap_alloc_new w1 _)
          case n2 => intro u hu; simp at hu; rcases hu with rfl | rfl | rfl <;> rfl
          case n3 => unfold maxLen; omega
          case n4 => omega
          case n5 => simp; omega
          intro g cap2 w2 hown2 hgrow2 hat2 hlt2
          have hg : w.heap.size + 2 ≤ g := (hown2.lt g rfl).1
          have G0 := HI.out.added (L k) hnx hm1 hg1 hown2 hgrow2
          have hl1 : (gs ++ [⟨L k, 0, 0⟩] : List Tal).length = gs.length + 1 := by simp
          rw [← hl1] at G0
          have hql2 : gs.length < (gs ++ [⟨L k, 0, 0⟩] : List Tal).length := by simp
          have et : tal (gs ++ [⟨L k, 0, 0⟩]) gs.length = ⟨L k, 0, 0⟩ := by simp [tal, List.getD_eq_getElem?_getD]
          have G1 := G0.bumpI gs.length hql2 hg
          rw [et] at G1
          have hfl := flat_at (gs ++ [⟨L k, 0, 0⟩]) gs.length hql2
          rw [et] at hfl
          have keep : ∀ (a : Addr) (v : Value), w'.cell? a = some v → a.block < w.heap.size + 1 → w2.cell? a = some v := fun a v hv hlt =>
            hgrow2.cell ((World.cell?_alloc_lt _ _ _ (Nat.lt_of_lt_of_le (World.block_lt_of_cell? _ _ hv) s1)).trans (hg1.cell hv (by simp; omega))) (hvb a.block (by omega))
          have fkeep : ∀ (a : Addr), a.block < w.heap.size + 1 → w2.frozen? a = w'.frozen? a := fun a hlt => by
            rw [hgrow2.frozen_far a (by simp; omega) (hvb a.block (by omega)), World.frozen?_alloc_old _ _ _ (by omega), hg1.frozen_far a (by omega) (by simp; omega)]
          have a5 := keep _ _ cp5 (by simp; omega)
          have a2 := keep _ _ cf1 (by simp; omega)
          have ab := keep _ _ cf2 (by simp; omega)
          have a6 := keep _ _ co (by simp; omega)
          have aB := keep _ _ cz (by simp)
          have b5 : w2.frozen? ⟨P, 5, none⟩ = false := (fkeep ⟨P, 5, none⟩ (by simp; omega)).trans (HI.out.pool.frozen 5)
          have bB : w2.frozen? ⟨w.heap.size, k, none⟩ = false := (fkeep ⟨w.heap.size, k, none⟩ (by simp)).trans fo
          have cg1 : w2.cell? ⟨g, gs.length * 3 + 1, none⟩ = some (.int .i64 0) := by rw [hown2.cellAt _ (by omega), ← hfl.2.1, flat_snoc]
          have cg2 : w2.cell? ⟨g, gs.length * 3 + 2, none⟩ = some (.int .i64 0) := by rw [hown2.cellAt _ (by omega), ← hfl.2.2, flat_snoc]
          have fg1 : w2.frozen? ⟨g, gs.length * 3 + 1, none⟩ = false := hown2.frozenAt _
          have fg2 : w2.frozen? ⟨g, gs.length * 3 + 2, none⟩ = false := hown2.frozenAt _
          clear keep fkeep
          by_cases hfk : F k = true
          · have G2 := ((G1.bumpF gs.length (by rw [len_bumpI]; exact hql2) hg).setOf (gs.length : Int))
            have e2 : (tal (bumpI (gs ++ [⟨L k, 0, 0⟩]) gs.length) gs.length).fre = 0 := by rw [tal_bumpI _ _ _ hql2, if_pos rfl, et]
            rw [hlo, e2] at G2
            simp only [Int.zero_add] at G2
            have HG : Hid (∃ vG D, GI w P w.heap.size n (.slice (some ⟨gL, 0, none⟩) n n) (.slice (some ⟨bf, off, none⟩) fn fc) (.slice ra rn rc) (k + 1) ((((w2.setCell ⟨P, 5, none⟩ (.slice (some ⟨g, 0, none⟩) (gs.length + 1) cap2)).setCell ⟨g, gs.length * 3 + 1, none⟩ (.int .i64 1)).setCell ⟨g, gs.length * 3 + 2, none⟩ (.int .i64 1)).setCell ⟨w.heap.size, k, none⟩ (.int .i64 gs.length)) vG D (gst L F (resAt rn R) (k + 1)).gs (gst L F (resAt rn R) (k + 1)).ofs) := by
              have := HS.out
              rw [this, hfk]; rw [hl1] at G2; exact ⟨_, _, G2⟩
            clear G0 G1 G2 e2 et HS hfl hlo HI hown2 hgrow2 hat2 hm1 hg1 hgrp1 hgrp hmap hl1 hvb
            generalize gs.length = gl at *
            go_wp2
            go_roundw
            case rel => exact (HG.out).elim fun vG h => h.elim fun D h => ⟨k + 1, vG, D, by omega, by go_num, h⟩
            case measure => simp [intOf]; omega
          · have hfk' : F k = false := by simpa using hfk
            clear hfk
            have G2 := G1.setOf (gs.length : Int)
            rw [hlo] at G2
            simp only [Int.zero_add] at G2
            have HG : Hid (∃ vG D, GI w P w.heap.size n (.slice (some ⟨gL, 0, none⟩) n n) (.slice (some ⟨bf, off, none⟩) fn fc) (.slice ra rn rc) (k + 1) (((w2.setCell ⟨P, 5, none⟩ (.slice (some ⟨g, 0, none⟩) (gs.length + 1) cap2)).setCell ⟨g, gs.length * 3 + 1, none⟩ (.int .i64 1)).setCell ⟨w.heap.size, k, none⟩ (.int .i64 gs.length)) vG D (gst L F (resAt rn R) (k + 1)).gs (gst L F (resAt rn R) (k + 1)).ofs) := by
              have := HS.out
              rw [this, hfk', bumpF_false]; rw [hl1] at G2; exact ⟨_, _, G2⟩
            clear G0 G1 G2 et HS hfl hlo HI hown2 hgrow2 hat2 hm1 hg1 hgrp1 hgrp hmap hl1 hvb
            generalize gs.length = gl at *
            go_wp2
            go_roundw
            case rel => exact (HG.out).elim fun vG h => h.elim fun D h => ⟨k + 1, vG, D, by omega, by go_num, h⟩
            case measure => simp [intOf]; omega
    · have : k = n := by omega
      subst this
      go_wp2
      go_end0
      exact ⟨rfl, _, _, hgi⟩
end Go.Proofs.Qxb6600123a
