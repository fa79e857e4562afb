/-
  Seat b6600123a: FnGroupNumbersDistinctNodeSets: the walk.
-/
import Derived.Test.Qxb6600123aZZGroup
import Derived.Test.Qxb6600123aClone
import Derived.Deep.QuietTactic
import Derived.BigQuiet
namespace Go.Proofs.Qxb6600123a
open Go.RowKit Go.Deep Go.Maps
set_option linter.unusedVariables false

section
variable {wr : World} {L : Nat → Int} {F R : Nat → Bool} {b g u : Nat}

theorem rowI_step (h : wr.rowIs b 3 g (fun j => .int .i64 (tal (gst L F R u).gs j).inst)) (hR : R u = false) :
    (wr.setCell ⟨b, idx (gst L F R u).gs (L u), none⟩ (.int .i64 ((tal (gst L F R u).gs (idx (gst L F R u).gs (L u))).inst + 1))).rowIs b 3 g (fun j => .int .i64 (tal (gst L F R (u + 1)).gs j).inst) :=
  (h.set _ _).congr (fun j _ => by
    rw [tal_succ L F R u j hR]
    by_cases e : j = idx (gst L F R u).gs (L u)
    · subst e; simp
    · simp [e])

theorem rowF_step (h : wr.rowIs b 3 g (fun j => .int .i64 (tal (gst L F R u).gs j).fre)) (hR : R u = false) (hF : F u = true) :
    (wr.setCell ⟨b, idx (gst L F R u).gs (L u), none⟩ (.int .i64 ((tal (gst L F R u).gs (idx (gst L F R u).gs (L u))).fre + 1))).rowIs b 3 g (fun j => .int .i64 (tal (gst L F R (u + 1)).gs j).fre) :=
  (h.set _ _).congr (fun j _ => by
    rw [tal_succ L F R u j hR]
    by_cases e : j = idx (gst L F R u).gs (L u)
    · subst e; simp [hF]
    · simp [e])

theorem rowF_same (h : wr.rowIs b 3 g (fun j => .int .i64 (tal (gst L F R u).gs j).fre)) (hR : R u = false) (hF : F u = false) : wr.rowIs b 3 g (fun j => .int .i64 (tal (gst L F R (u + 1)).gs j).fre) :=
  h.congr (fun j _ => by
    rw [tal_succ L F R u j hR]
    by_cases e : j = idx (gst L F R u).gs (L u)
    · subst e; simp [hF]
    · simp [e])

theorem row_heap {w w' : World} {t : Nat} {f : Nat → Value} (h : w.rowIs b t g f) (e : w'.heap = w.heap) : w'.rowIs b t g f := h.of_block (by rw [e])

theorem row_drewN {t : Nat} {f : Nat → Value} (h : wr.rowIs b t g f) (k : Nat) : (wr.drewN k).rowIs b t g f := by
  obtain ⟨c, hc, r⟩ := h
  exact ⟨c, by simpa [World.drewN] using hc, r⟩
end

set_option maxRecDepth 100000 in
set_option maxHeartbeats 1600000 in
theorem walk6 (la fa ra : Option Addr) (n lc fn fc rn rc : Nat) (L : Nat → Int) (F R : Nat → Bool) (w : World) (hn : n ≤ maxLen) (hfn : fn ≤ maxLen) (hrn : rn ≤ maxLen)
    (hwf : ∀ i, i < n → (Lit.int .u64 (L i)).wf = true)
    (hL : In w.heap.size w la n lc (fun i => .int .u64 (L i))) (hF : In w.heap.size w fa fn fc (fun i => .bool (F i))) (hR : In w.heap.size w ra rn rc (fun i => .bool (R i))) :
    Calls Try.prog 6 #[.slice la n lc, .slice fa fn fc, .slice ra rn rc] w fun e w' => e = .returned (.bool true) ∧ Below w.heap.size w w' := by
  go_enter Try.func6, Try.ntmps6
  go_wp2_with fail
  refine (bytes21 la fa ra n fn rn lc fc rc _ hn hfn hrn).mono ?_
  rintro e w' ⟨b, rfl, hw⟩
  subst w'
  cases b
  · go_wp2
    go_ret
    exact ⟨rfl, Below.refl _ _⟩
  by_cases h1 : 4096 < n
  · go_wp2
    go_ret
    exact ⟨rfl, Below.refl _ _⟩
  by_cases h2 : 65536 < fn
  · go_wp2
    go_ret
    exact ⟨rfl, Below.refl _ _⟩
  by_cases h3 : 65536 < rn
  · go_wp2
    go_ret
    exact ⟨rfl, Below.refl _ _⟩
  by_cases h4 : fn < n
  · go_wp2
    go_ret
    exact ⟨rfl, Below.refl _ _⟩
  have d1 : decide ((4096 : Int) < (n : Int)) = false := decide_eq_false (by omega)
  have d2 : decide ((65536 : Int) < (fn : Int)) = false := decide_eq_false (by omega)
  have d3 : decide ((65536 : Int) < (rn : Int)) = false := decide_eq_false (by omega)
  have d4 : decide ((fn : Int) < (n : Int)) = false := decide_eq_false (by omega)
  go_wp2_with fail
  refine (cloneU64_any la n lc L _ (by omega) hL).mono ?_
  rintro e w1 ⟨lo, lco, rfl, hb1, hL1, _⟩
  go_wp2_with fail
  refine (cloneBools_any fa fn fc F _ (by omega) (hF.next hb1)).mono ?_
  rintro e w2 ⟨fo, fco, rfl, hb2, hF2, _⟩
  go_wp2_with fail
  refine (cloneBools_any ra rn rc R _ (by omega) ((hR.next hb1).next hb2)).mono ?_
  rintro e w3 ⟨ro, rco, rfl, hb3, hR3, _⟩
  have hL3 := (hL1.next hb2).next hb3
  have hF3 := hF2.next hb3
  clear hL1 hF2
  have hb03 : Below w.heap.size w w3 := (hb1.trans (hb2.mono hb1.size)).trans (hb3.mono (Nat.le_trans hb1.size hb2.size))
  clear hb1 hb2 hb3 hL hF hR
  go_wp2_with fail
  refine (zzgroup_any lo fo ro n lco fn fco rn rco L F R _ (by omega) (by omega) (by omega) (by omega) hwf hL3 hF3 hR3).mono ?_
  rintro e w4 ⟨gO, gN, gI, gF, g, rfl, hG⟩
  have hL4 := hL3.next hG.below
  have hF4 := hF3.next hG.below
  have hR4 := hR3.next hG.below
  clear hL3 hF3 hR3
  have hb04 := hb03.trans (hG.below.mono hb03.size)
  have hgn : g ≤ n := by rw [hG.len]; exact len_gs_le _ _ _ _
  have hmk := run_make_row' (P := Try.prog) 22 3 (.int .i64 0) 8 Try.underlying22 info3 rfl .i64 .i64 g (by omega) (by omega)
  have d5 : decide (n < g) = false := decide_eq_false (by omega)
  have HG : Hid (Grouped w3 w4 L F (resAt rn R) n gO gN gI gF g) := hG
  clear hG
  go_wp2
  clear d1 d2 d3 d4 d5
  go_loopw [15, 16] (fun nx i wr => ∃ u : Nat, u ≤ n ∧ i = .int .i64 u ∧ nx = .int .i64 ((gst L F (resAt rn R) u).gs.length : Nat) ∧ wr.rowIs w4.heap.size 3 g (fun j => .int .i64 (tal (gst L F (resAt rn R) u).gs j).inst) ∧
      wr.rowIs (w4.heap.size + 1) 3 g (fun j => .int .i64 (tal (gst L F (resAt rn R) u).gs j).fre) ∧ Below w4.heap.size w4 wr)
    (fun _ i _ => n - (intOf i).toNat)
  case atStart =>
    refine ⟨0, Nat.zero_le _, rfl, rfl, ?_, ?_, ((Below.refl _ _).alloc (Nat.le_refl _) _).alloc (by simp) _⟩
    · exact ((World.rowIs_made _ _ _ _).alloc _).congr (fun _ _ => by simp [gst, tal, Tal.nul])
    · have := World.rowIs_made (w4.alloc (.cells (madeCells #[.int .i64 0] g) 3)) (.int .i64 0) g 3
      simp only [World.size_alloc] at this
      exact this.congr (fun _ _ => by simp [gst, tal, Tal.nul])
  case round =>
    obtain ⟨u, hu, rfl, rfl, rA, rF, hnx⟩ := hrel
    have hmn := len_gs_le L F (resAt rn R) u
    by_cases hlt : u < n
    · have cO : wr.cell? ⟨gO, u, none⟩ = some (.int .i64 ((gst L F (resAt rn R) n).ofs.getD u 0)) := (hnx.cell (p := ⟨gO, u, none⟩) HG.out.ofr.lt).trans (HG.out.ofr.cell hlt)
      rw [ofs_at L F (resAt rn R) n u hlt] at cO
      have hR5 := hR4.later hnx
      by_cases hres : resAt rn R u = true
      · rw [if_pos hres] at cO
        have HS : Hid (gst L F (resAt rn R) (u + 1) = ⟨(gst L F (resAt rn R) u).gs, (gst L F (resAt rn R) u).ofs ++ [-1]⟩) := gst_succ_res L F (resAt rn R) u hres
        generalize hm : (gst L F (resAt rn R) u).gs.length = m at *
        have HM : Hid ((gst L F (resAt rn R) u).gs.length = m) := hm
        clear hm
        go_wp2_with (go_at_call 25; refine (reservedAt_any ro rn rco u w4.heap.size R _ (by omega) (by omega) (by assumption)).mono ?_; rintro e w' ⟨rfl, hw⟩; subst w')
        go_roundw
        case rel => exact ⟨u + 1, by omega, by go_num, by rw [HS.out, HM.out], by rw [HS.out]; exact rA, by rw [HS.out]; exact rF, hnx⟩
        case measure => simp [intOf]; omega
      · have hres' : resAt rn R u = false := by simpa using hres
        clear hres
        rw [if_neg (by rw [hres']; simp)] at cO
        obtain ⟨hqg, hnode⟩ := node_of L F (resAt rn R) n u hlt hres'
        rw [← HG.out.len] at hqg
        have cN : wr.cell? ⟨gN, idx (gst L F (resAt rn R) u).gs (L u), none⟩ = some (.int .u64 (L u)) := by
          rw [hnx.cell (p := ⟨gN, _, none⟩) HG.out.nod.lt, HG.out.nod.cell hqg, hnode]
        obtain ⟨bl, ol, elo, hbl, cL0⟩ := hL4.cell u hlt
        subst elo
        obtain ⟨bf, of, efo, hbf, cF0⟩ := hF4.cell u (by omega)
        subst efo
        have cL : wr.cell? ⟨bl, ol + u, none⟩ = some (.int .u64 (L u)) := (hnx.cell (p := ⟨bl, ol + u, none⟩) hbl).trans cL0
        have cFr : wr.cell? ⟨bf, of + u, none⟩ = some (.bool (F u)) := (hnx.cell (p := ⟨bf, of + u, none⟩) hbf).trans cF0
        have hcq := counts L F (resAt rn R) u (idx (gst L F (resAt rn R) u).gs (L u))
        have hql := idx_le (gst L F (resAt rn R) u).gs (L u)
        have hlen := len_gs_succ L F (resAt rn R) u hres'
        have kA := rA.cell hqg
        have kF := rF.cell hqg
        have zA : wr.frozen? ⟨w4.heap.size, idx (gst L F (resAt rn R) u).gs (L u), none⟩ = false := rA.frozen _
        have zF : wr.frozen? ⟨w4.heap.size + 1, idx (gst L F (resAt rn R) u).gs (L u), none⟩ = false := rF.frozen _
        have RA := rowI_step rA hres'
        have RF := rF.setOther (a := ⟨w4.heap.size, idx (gst L F (resAt rn R) u).gs (L u), none⟩) (by simp) (.int .i64 ((tal (gst L F (resAt rn R) u).gs (idx (gst L F (resAt rn R) u).gs (L u))).inst + 1))
        have HRF1 : Hid (F u = true → _) := fun hf => rowF_step RF hres' hf
        have HRF2 : Hid (F u = false → _) := fun hf => rowF_same RF hres' hf
        have HRA : Hid _ := RA
        have HLen : Hid _ := hlen
        clear RA RF rA rF hlen hnode cL0 cF0 hL4 hF4
        generalize (tal (gst L F (resAt rn R) u).gs (idx (gst L F (resAt rn R) u).gs (L u))).inst = ci at *
        generalize (tal (gst L F (resAt rn R) u).gs (idx (gst L F (resAt rn R) u).gs (L u))).fre = cf at *
        generalize idx (gst L F (resAt rn R) u).gs (L u) = q at *
        generalize (gst L F (resAt rn R) u).gs.length = m at *
        have i1 : (q : Int) < (g : Int) := by omega
        have i2 : (u : Int) < (n : Int) := by omega
        by_cases hqm : q < m
        · by_cases hfu : F u = true
          · go_wp2_with (go_at_call 25; refine (reservedAt_any ro rn rco u w4.heap.size R _ (by omega) (by omega) (by assumption)).mono ?_; rintro e w' ⟨rfl, hw⟩; subst w')
            go_quiet (fail)
            go_wp2
            go_roundw
            case rel =>
              refine ⟨u + 1, by omega, by go_num, by rw [HLen.out, if_pos hqm], ?_, ?_, ?_⟩
              · exact row_heap (World.rowIs.setOther HRA.out (a := ⟨w4.heap.size + 1, q, none⟩) (by simp) (.int .i64 (cf + 1))) rfl
              · exact row_heap (HRF1.out hfu) rfl
              · exact ((below_drewN hnx _).setCell (Nat.le_refl _) _).setCell (by simp) _
            case measure => simp [intOf]; omega
          · have hfu' : F u = false := by simpa using hfu
            clear hfu
            go_wp2_with (go_at_call 25; refine (reservedAt_any ro rn rco u w4.heap.size R _ (by omega) (by omega) (by assumption)).mono ?_; rintro e w' ⟨rfl, hw⟩; subst w')
            go_quiet (fail)
            go_wp2
            go_roundw
            case rel =>
              refine ⟨u + 1, by omega, by go_num, by rw [HLen.out, if_pos hqm], ?_, ?_, ?_⟩
              · exact row_heap HRA.out rfl
              · exact row_heap (HRF2.out hfu') rfl
              · exact (below_drewN hnx _).setCell (Nat.le_refl _) _
            case measure => simp [intOf]; omega
        · obtain rfl : q = m := by omega
          by_cases hfu : F u = true
          · go_wp2_with (go_at_call 25; refine (reservedAt_any ro rn rco u w4.heap.size R _ (by omega) (by omega) (by assumption)).mono ?_; rintro e w' ⟨rfl, hw⟩; subst w')
            go_quiet (fail)
            go_wp2
            go_roundw
            case rel =>
              refine ⟨u + 1, by omega, by go_num, by rw [HLen.out, if_neg hqm]; go_num, ?_, ?_, ?_⟩
              · exact row_heap (World.rowIs.setOther HRA.out (a := ⟨w4.heap.size + 1, q, none⟩) (by simp) (.int .i64 (cf + 1))) rfl
              · exact row_heap (HRF1.out hfu) rfl
              · exact ((below_drewN hnx _).setCell (Nat.le_refl _) _).setCell (by simp) _
            case measure => simp [intOf]; omega
          · have hfu' : F u = false := by simpa using hfu
            clear hfu
            go_wp2_with (go_at_call 25; refine (reservedAt_any ro rn rco u w4.heap.size R _ (by omega) (by omega) (by assumption)).mono ?_; rintro e w' ⟨rfl, hw⟩; subst w')
            go_quiet (fail)
            go_wp2
            go_roundw
            case rel =>
              refine ⟨u + 1, by omega, by go_num, by rw [HLen.out, if_neg hqm]; go_num, ?_, ?_, ?_⟩
              · exact row_heap HRA.out rfl
              · exact row_heap (HRF2.out hfu') rfl
              · exact (below_drewN hnx _).setCell (Nat.le_refl _) _
            case measure => simp [intOf]; omega
    · obtain rfl : u = n := by omega
      have d6 : (((gst L F (resAt rn R) u).gs.length : Int) != (g : Int)) = false := by rw [HG.out.len]; simp
      obtain ⟨wo, rfl⟩ : ∃ wo : World, wo = wr := ⟨_, rfl⟩
      have rN := row_later HG.out.nod hnx HG.out.nod.lt
      have rI := row_later HG.out.ins hnx HG.out.ins.lt
      have rG := row_later HG.out.fre hnx HG.out.fre.lt
      have hap := apart_gst L F (resAt rn R) u
      have hgl := HG.out.len
      have HR : Hid (_ ∧ _ ∧ _ ∧ _ ∧ _) := ⟨rN, rI, rG, rA, rF⟩
      have HA : Hid (Apart (gst L F (resAt rn R) u).gs ∧ g = (gst L F (resAt rn R) u).gs.length) := ⟨hap, hgl⟩
      clear rN rI rG rA rF hap hgl
      go_wp2
      clear d6
      go_loopw [18] (fun i wr => ∃ k d : Nat, k ≤ g ∧ i = .int .i64 k ∧ wr = wo.drewN d) (fun i _ => g - (intOf i).toNat)
      case atStart => exact ⟨0, 0, Nat.zero_le _, rfl, rfl⟩
      case round =>
        obtain ⟨k, d, hk, rfl, rfl⟩ := hrel
        by_cases hkg : k < g
        · have hka : (k : Int) < (g : Int) := by omega
          have kI : wo.cell? ⟨gI, k, none⟩ = some _ := World.rowIs.cell HR.out.2.1 hkg
          have kG : wo.cell? ⟨gF, k, none⟩ = some _ := World.rowIs.cell HR.out.2.2.1 hkg
          have kA : wo.cell? ⟨w4.heap.size, k, none⟩ = some _ := World.rowIs.cell HR.out.2.2.2.1 hkg
          have kF : wo.cell? ⟨w4.heap.size + 1, k, none⟩ = some _ := World.rowIs.cell HR.out.2.2.2.2 hkg
          have kN : wo.cell? ⟨gN, k, none⟩ = some _ := World.rowIs.cell HR.out.1 hkg
          go_wp2
          go_quiet (fail)
          go_wp2
          go_loopw [19] (fun i wr => ∃ l d : Nat, k + 1 ≤ l ∧ l ≤ g ∧ i = .int .i64 l ∧ wr = wo.drewN d) (fun i _ => g - (intOf i).toNat)
          case atStart =>
            first
            | exact ⟨k + 1, _, Nat.le_refl _, by omega, by go_num, rfl⟩
            | exact ⟨k + 1, _, Nat.le_refl _, by omega, by go_num, World.drewN_drewN _ _ _⟩
          case round =>
            obtain ⟨l, d2, hkl, hlg, rfl, rfl⟩ := hrel
            by_cases hll : l < g
            · have hla : (l : Int) < (g : Int) := by omega
              have kL : wo.cell? ⟨gN, l, none⟩ = some _ := World.rowIs.cell HR.out.1 hll
              have hne : ((tal (gst L F (resAt rn R) u).gs k).node == (tal (gst L F (resAt rn R) u).gs l).node) = false := by
                have h := HA.out
                apply beq_false_of_ne
                intro e
                have := h.1 k l (by omega) (by omega) e
                omega
              go_wp2
              go_quiet (fail)
              go_wp2
              go_roundw
              case rel => exact ⟨l + 1, _, by omega, by omega, by go_num, by first | rfl | exact World.drewN_drewN _ _ _⟩
              case measure => simp [intOf]; omega
            · go_wp2
              go_roundw
              case rel => exact ⟨k + 1, d2, by omega, by go_num, rfl⟩
              case measure => simp [intOf]; omega
        · go_wp2
          go_ret
          exact ⟨rfl, below_drewN (hb04.trans (hnx.mono hb04.size)) _⟩
end Go.Proofs.Qxb6600123a
