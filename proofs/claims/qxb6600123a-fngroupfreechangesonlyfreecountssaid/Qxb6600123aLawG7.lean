/-
  Seat b6600123a: FnGroupFreeChangesOnlyFreeCounts: the walk.
-/
import Derived.Test.Qxb6600123aZZGroup
import Derived.Test.Qxb6600123aClone
import Derived.Test.Qxb6600123aEqual
import Derived.Test.Qxb6600123aFreePlain
namespace Go.Proofs.Qxb6600123a
open Go.RowKit Go.Deep Go.Maps
set_option linter.unusedVariables false

theorem rowD {wr : World} {b t g : Nat} {f : Nat → Value} (h : wr.rowIs b t g f) (k : Nat) : (wr.drewN k).rowIs b t g f := h.of_block rfl

set_option maxRecDepth 100000 in
set_option maxHeartbeats 1600000 in
theorem walk7 (la fa ra : Option Addr) (n lc fn fc rn rc : Nat) (L : Nat → Int) (F R : Nat → Bool) (w : World) (hn : n ≤ maxLen) (hfn : fn ≤ maxLen) (hrn : rn ≤ maxLen)
    (hwf : ∀ i, i < n → (Lit.int .u64 (L i)).wf = true)
    (hL : In w.heap.size w la n lc (fun i => .int .u64 (L i))) (hF : In w.heap.size w fa fn fc (fun i => .bool (F i))) (hR : In w.heap.size w ra rn rc (fun i => .bool (R i))) :
    Calls Try.prog 7 #[.slice la n lc, .slice fa fn fc, .slice ra rn rc] w fun e w' => e = .returned (.bool true) ∧ Below w.heap.size w w' := by
  go_enter Try.func7, Try.ntmps7
  go_wp2_with fail
  refine (bytes26 la fa ra n fn rn lc fc rc _ hn hfn hrn).mono ?_
  rintro e w' ⟨b, rfl, hw⟩
  subst w'
  cases b
  · go_wp2
    go_ret
    exact ⟨rfl, Below.refl _ _⟩
  by_cases h1 : 4096 < n
  · go_wp2
    go_ret
    exact ⟨rfl, Below.refl _ _⟩
  by_cases h2 : 65536 < fn
  · go_wp2
    go_ret
    exact ⟨rfl, Below.refl _ _⟩
  by_cases h3 : 65536 < rn
  · go_wp2
    go_ret
    exact ⟨rfl, Below.refl _ _⟩
  by_cases h4 : fn < n
  · go_wp2
    go_ret
    exact ⟨rfl, Below.refl _ _⟩
  have d1 : decide ((4096 : Int) < (n : Int)) = false := decide_eq_false (by omega)
  have d2 : decide ((65536 : Int) < (fn : Int)) = false := decide_eq_false (by omega)
  have d3 : decide ((65536 : Int) < (rn : Int)) = false := decide_eq_false (by omega)
  have d4 : decide ((fn : Int) < (n : Int)) = false := decide_eq_false (by omega)
  go_wp2_with fail
  refine (cloneU64_any la n lc L _ (by omega) hL).mono ?_
  rintro e w1 ⟨lo, lco, rfl, hb1, hL1, _⟩
  go_wp2_with fail
  refine (cloneBools_any fa fn fc F _ (by omega) (hF.next hb1)).mono ?_
  rintro e w2 ⟨fo, fco, rfl, hb2, hF2, _⟩
  go_wp2_with fail
  refine (cloneBools_any ra rn rc R _ (by omega) ((hR.next hb1).next hb2)).mono ?_
  rintro e w3 ⟨ro, rco, rfl, hb3, hR3, _⟩
  have hL3 := (hL1.next hb2).next hb3
  have hF3 := hF2.next hb3
  clear hL1 hF2
  have hb03 : Below w.heap.size w w3 := (hb1.trans (hb2.mono hb1.size)).trans (hb3.mono (Nat.le_trans hb1.size hb2.size))
  clear hb1 hb2 hb3 hL hF hR
  have hmk := run_make_row' (P := Try.prog) 34 4 (.bool false) 1 Try.underlying34 info4 rfl .i64 .i64 fn (by omega) (by omega)
  go_wp2
  clear d1 d2 d3 d4 hmk
  go_loopw [8] (fun i wr => ∃ k : Nat, k ≤ fn ∧ i = .int .i64 k ∧ wr.rowIs w3.heap.size 4 fn (fun j => if j < k then .bool true else .bool false) ∧ Below w3.heap.size w3 wr) (fun i _ => fn - (intOf i).toNat)
  case atStart => exact ⟨0, Nat.zero_le _, rfl, (World.rowIs_made _ _ _ _).congr (fun _ _ => by simp), (Below.refl _ _).alloc (Nat.le_refl _) _⟩
  case round =>
    obtain ⟨k, hk, rfl, hrow, hnx⟩ := hrel
    by_cases hlt : k < fn
    · have c2 : wr.cell? ⟨w3.heap.size, k, none⟩ = some (.bool false) := by rw [hrow.cell hlt]; simp
      have f2 : wr.frozen? ⟨w3.heap.size, k, none⟩ = false := hrow.frozen k
      have HR : Hid _ := row_fill (V := fun _ => .bool true) hrow
      clear hrow
      go_wp2
      go_roundw
      case rel => exact ⟨k + 1, by omega, by go_num, HR.out, hnx.setCell (Nat.le_refl _) _⟩
      case measure => simp [intOf]; omega
    · obtain rfl : k = fn := by omega
      obtain ⟨wf, rfl⟩ : ∃ wf : World, wf = wr := ⟨_, rfl⟩
      have hAF := In.of_row (hrow.congr (g := fun _ => .bool true) (fun j hj => by simp [hj])) k k (Nat.le_refl _) (Nat.le_refl _)
      have hLf := hL3.next hnx
      have hFf := hF3.next hnx
      have hRf := hR3.next hnx
      have hb0f : Below w.heap.size w wf := hb03.trans (hnx.mono hb03.size)
      clear hL3 hF3 hR3 hrow hb03 hnx
      go_wp2_with fail
      refine (zzgroup_any lo fo ro n lco k fco rn rco L F R _ (by omega) (by omega) (by omega) (by omega) hwf hLf hFf hRf).mono ?_
      rintro e w4 ⟨gO, gN, gI, gF, g, rfl, hG⟩
      have hAF4 := hAF.next hG.below
      have hL4 := hLf.next hG.below
      have hF4 := hFf.next hG.below
      have hR4 := hRf.next hG.below
      have hb04 : Below w.heap.size w w4 := hb0f.trans (hG.below.mono hb0f.size)
      clear hAF hLf hFf hRf hb0f
      go_wp2_with fail
      refine (zzgroup_any lo (some ⟨w3.heap.size, 0, none⟩) ro n lco k k rn rco L (fun _ => true) R _ (by omega) (by omega) (by omega) (by omega) hwf hL4 hAF4 hR4).mono ?_
      rintro e w5 ⟨gO', gN', gI', gF', g', rfl, hG'⟩
      have hF5 := hF4.next hG'.below
      have hR5 := hR4.next hG'.below
      have hb05 : Below w.heap.size w w5 := hb04.trans (hG'.below.mono hb04.size)
      obtain rfl : g' = g := by rw [hG'.len, hG.len]; exact same_len _ _ _ _ _
      have hgn : g' ≤ n := by rw [hG.len]; exact len_gs_le _ _ _ _
      have sa := same_all L F (fun _ => true) (resAt rn R) n
      have rO := row_later hG.ofr hG'.below hG.ofr.lt
      have rN := row_later hG.nod hG'.below hG.nod.lt
      have rI := row_later hG.ins hG'.below hG.ins.lt
      have rF := row_later hG.fre hG'.below hG.fre.lt
      have rO' := hG'.ofr
      rw [sa.1] at rO'
      have rN' := hG'.nod.congr (g := fun i => .int .u64 (tal (gst L F (resAt rn R) n).gs i).node) (fun i _ => by rw [same_node L F (fun _ => true) (resAt rn R) n i])
      have rI' := hG'.ins.congr (g := fun i => .int .i64 (tal (gst L F (resAt rn R) n).gs i).inst) (fun i _ => by rw [sa.2.2 i])
      have rF' := hG'.fre.congr (g := fun i => .int .i64 (tal (gst L F (resAt rn R) n).gs i).inst) (fun i _ => by rw [all_free L (fun _ => true) (resAt rn R) n n i (fun _ _ => rfl) (Nat.le_refl _), sa.2.2 i])
      have HS : Hid _ := sum_free L F (resAt rn R) n g' (by rw [hG.len]; exact Nat.le_refl _)
      clear hG hG' hL4 hF4 hR4 hAF4 sa hb04
      go_wp2_with fail
      refine (equalInts_true gO gO' n _ _ (by omega) rO rO').mono ?_
      rintro e w' ⟨rfl, q1, rfl⟩
      go_wp2_with fail
      refine (equalU64_true gN gN' g' _ _ (by omega) (rowD rN _) (rowD rN' _)).mono ?_
      rintro e w' ⟨rfl, q2, rfl⟩
      go_wp2_with fail
      refine (equalInts_true gI gI' g' _ _ (by omega) (rowD rI _) (rowD rI' _)).mono ?_
      rintro e w' ⟨rfl, q3, rfl⟩
      go_wp2_with fail
      refine (equalInts_true gF' gI' g' _ _ (by omega) (rowD rF' _) (rowD rI' _)).mono ?_
      rintro e w' ⟨rfl, q4, rfl⟩
      have hfb : ∀ i, 0 ≤ (tal (gst L F (resAt rn R) n).gs i).fre ∧ (tal (gst L F (resAt rn R) n).gs i).fre ≤ 4096 := fun i => by have := counts L F (resAt rn R) n i; omega
      have hsb := fun k => sumTo_bound (f := fun i => (tal (gst L F (resAt rn R) n).gs i).fre) k 4096 hfb
      clear rO rN rO' rN' rI' rF'
      go_wp2
      go_loopw [17, 18] (fun t i wr => ∃ j d : Nat, j ≤ g' ∧ i = .int .i64 j ∧ t = .int .i64 (sumTo (fun i => (tal (gst L F (resAt rn R) n).gs i).fre) j) ∧ wr = w5.drewN d) (fun _ i _ => g' - (intOf i).toNat)
      case atStart => exact ⟨0, _, Nat.zero_le _, rfl, rfl, rfl⟩
      case round =>
        obtain ⟨j, d, hj, rfl, rfl, rfl⟩ := hrel
        have hsj := hsb j
        by_cases hjg : j < g'
        · have c1 : w5.cell? ⟨gF, j, none⟩ = some (.int .i64 (tal (gst L F (resAt rn R) n).gs j).fre) := rF.cell hjg
          have c2 : w5.cell? ⟨gI, j, none⟩ = some (.int .i64 (tal (gst L F (resAt rn R) n).gs j).inst) := rI.cell hjg
          have hcj := counts L F (resAt rn R) n j
          have i1 : (j : Int) < (g' : Int) := by omega
          have HN : Hid (sumTo (fun i => (tal (gst L F (resAt rn R) n).gs i).fre) (j + 1) = sumTo (fun i => (tal (gst L F (resAt rn R) n).gs i).fre) j + (tal (gst L F (resAt rn R) n).gs j).fre) := rfl
          generalize (tal (gst L F (resAt rn R) n).gs j).fre = x at c1 hcj HN
          generalize (tal (gst L F (resAt rn R) n).gs j).inst = y at c2 hcj
          have e1 : decide (x < 0) = false := decide_eq_false (by omega)
          have e2 : decide (y < x) = false := decide_eq_false (by omega)
          have HB : Hid (_) := hsb
          clear hsb hfb
          generalize sumTo (fun i => (tal (gst L F (resAt rn R) n).gs i).fre) j = sj at hsj HN ⊢
          go_wp2
          go_quiet (fail)
          go_wp2
          go_roundw
          case rel => exact ⟨j + 1, _, by omega, by go_num, by rw [HN.out], rfl⟩
          case measure => simp [intOf]; omega
        · obtain rfl : j = g' := by omega
          have hS := HS.out
          have HE : Hid (sumTo (fun i => (tal (gst L F (resAt rn R) n).gs i).fre) j = cntTo F (resAt rn R) n) := hS
          clear hS hsb hfb
          have hcb := cntTo_bound F (resAt rn R)
          have HC : Hid (∀ k, 0 ≤ cntTo F (resAt rn R) k ∧ cntTo F (resAt rn R) k ≤ k) := hcb
          clear hcb
          go_wp2
          go_loopw [19, 20] (fun t i wr => ∃ u d : Nat, u ≤ n ∧ i = .int .i64 u ∧ t = .int .i64 (cntTo F (resAt rn R) u) ∧ wr = w5.drewN d) (fun _ i _ => n - (intOf i).toNat)
          case atStart => exact ⟨0, d, Nat.zero_le _, rfl, rfl, rfl⟩
          case round =>
            obtain ⟨u, d2, hu, rfl, rfl, rfl⟩ := hrel
            have hcu := HC.out u
            by_cases hun : u < n
            · obtain ⟨bf, of, efo, hbf, cF0⟩ := hF5.cell u (by omega)
              subst efo
              have HN : Hid (cntTo F (resAt rn R) (u + 1) = cntTo F (resAt rn R) u + if !resAt rn R u && F u then 1 else 0) := rfl
              have hR6 : In w5.heap.size (w5.drewN d2) ro rn rco (fun i => .bool (R i)) := hR5.later (below_drewN (Below.refl _ _) _)
              generalize cntTo F (resAt rn R) u = cu at hcu HN ⊢
              cases hres : resAt rn R u
              · cases hfu : F u
                · rw [hfu] at cF0
                  go_wp2_with (go_at_call 25; refine (reservedAt_any ro rn rco u w5.heap.size R _ (by omega) (by omega) (by assumption)).mono ?_; rintro e w' ⟨rfl, hw⟩; subst w')
                  go_roundw
                  case rel => exact ⟨u + 1, _, by omega, by go_num, by rw [HN.out, hres, hfu]; simp, rfl⟩
                  case measure => simp [intOf]; omega
                · rw [hfu] at cF0
                  go_wp2_with (go_at_call 25; refine (reservedAt_any ro rn rco u w5.heap.size R _ (by omega) (by omega) (by assumption)).mono ?_; rintro e w' ⟨rfl, hw⟩; subst w')
                  go_roundw
                  case rel => exact ⟨u + 1, _, by omega, by go_num, by rw [HN.out, hres, hfu]; simp, rfl⟩
                  case measure => simp [intOf]; omega
              · go_wp2_with (go_at_call 25; refine (reservedAt_any ro rn rco u w5.heap.size R _ (by omega) (by omega) (by assumption)).mono ?_; rintro e w' ⟨rfl, hw⟩; subst w')
                go_roundw
                case rel => exact ⟨u + 1, _, by omega, by go_num, by rw [HN.out, hres]; simp, rfl⟩
                case measure => simp [intOf]; omega
            · obtain rfl : u = n := by omega
              go_wp2
              go_ret
              exact ⟨by rw [HE.out]; simp, below_drewN hb05 _⟩
end Go.Proofs.Qxb6600123a
