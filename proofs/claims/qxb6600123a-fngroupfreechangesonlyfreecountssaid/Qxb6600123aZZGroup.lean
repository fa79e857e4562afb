/-
  Seat b6600123a: the walk of ZZGroup; the two byte tests of the group laws.
-/
import Derived.Test.Qxb6600123aGroup
namespace Go.Proofs.Qxb6600123a
open Go.RowKit Go.Deep Go.Maps
set_option linter.unusedVariables false

theorem bytes21 (a0 a1 a2 : Option Addr) (n0 n1 n2 c0 c1 c2 : Nat) (w : World) (h0 : n0 ≤ maxLen) (h1 : n1 ≤ maxLen) (h2 : n2 ≤ maxLen) :
    Calls Try.prog 21 #[.slice a0 n0 c0, .slice a1 n1 c1, .slice a2 n2 c2] w fun e w' => ∃ b, e = .returned (.bool b) ∧ w' = w := by
  unfold maxLen at h0 h1 h2
  go_enter Try.func21, Try.ntmps21
  go_wp2
  all_goals (go_ret; exact ⟨_, rfl, rfl⟩)

theorem bytes26 (a0 a1 a2 : Option Addr) (n0 n1 n2 c0 c1 c2 : Nat) (w : World) (h0 : n0 ≤ maxLen) (h1 : n1 ≤ maxLen) (h2 : n2 ≤ maxLen) :
    Calls Try.prog 26 #[.slice a0 n0 c0, .slice a1 n1 c1, .slice a2 n2 c2] w fun e w' => ∃ b, e = .returned (.bool b) ∧ w' = w := by
  unfold maxLen at h0 h1 h2
  go_enter Try.func26, Try.ntmps26
  go_wp2
  all_goals (go_ret; exact ⟨_, rfl, rfl⟩)

/-- What ZZGroup hands back: where each unit went, and of each tally its node set and its two counts. -/
structure Grouped (w w' : World) (L : Nat → Int) (F R : Nat → Bool) (n gO gN gI gF g : Nat) : Prop where
  below : Below w.heap.size w w'
  len : g = (gst L F R n).gs.length
  ofr : w'.rowIs gO 3 n (fun i => .int .i64 ((gst L F R n).ofs.getD i 0))
  nod : w'.rowIs gN 41 g (fun i => .int .u64 (tal (gst L F R n).gs i).node)
  ins : w'.rowIs gI 3 g (fun i => .int .i64 (tal (gst L F R n).gs i).inst)
  fre : w'.rowIs gF 3 g (fun i => .int .i64 (tal (gst L F R n).gs i).fre)

/-- A row that is filled from its head on: one store more. -/
theorem row_fill {wr : World} {g t n k : Nat} {V : Nat → Value} {z : Value} (h : wr.rowIs g t n (fun j => if j < k then V j else z)) :
    (wr.setCell ⟨g, k, none⟩ (V k)).rowIs g t n (fun j => if j < k + 1 then V j else z) :=
  (h.set k (V k)).congr (fun j _ => by
    by_cases e : j = k
    · subst e; simp
    · by_cases e2 : j < k
      · simp [e, e2, show j < k + 1 by omega]
      · simp [e, e2, show ¬ j < k + 1 by omega])

set_option maxRecDepth 100000 in
set_option maxHeartbeats 800000 in
theorem zzgroup_any (la fa ra : Option Addr) (n lc fn fc rn rc : Nat) (L : Nat → Int) (F R : Nat → Bool) (w : World) (hn : n ≤ 4096) (hfn : n ≤ fn) (hfm : fn ≤ 1048576) (hrn : rn ≤ 1048576)
    (hwf : ∀ i, i < n → (Lit.int .u64 (L i)).wf = true)
    (hL : In w.heap.size w la n lc (fun i => .int .u64 (L i))) (hF : In w.heap.size w fa fn fc (fun i => .bool (F i))) (hR : In w.heap.size w ra rn rc (fun i => .bool (R i))) :
    Calls Try.prog 24 #[.slice la n lc, .slice fa fn fc, .slice ra rn rc] w fun e w' => ∃ gO gN gI gF g, e = .returned (.tuple #[.slice (some ⟨gO, 0, none⟩) n n, .slice (some ⟨gN, 0, none⟩) g g, .slice (some ⟨gI, 0, none⟩) g g, .slice (some ⟨gF, 0, none⟩) g g]) ∧
      Grouped w w' L F (resAt rn R) n gO gN gI gF g := by
  have hmk := run_make_row' (P := Try.prog) 57 58 (.int .u64 0) 8 Try.underlying57 info58 rfl .i64 .i64 n (by omega) (by omega)
  go_enter Try.func24, Try.ntmps24
  go_wp2
  go_loopw [11] (fun i wr => ∃ k : Nat, k ≤ n ∧ i = .int .i64 k ∧ wr.rowIs w.heap.size 58 n (fun j => if j < k then .int .u64 (L j) else .int .u64 0) ∧ Below w.heap.size w wr ∧ wr.heap.size = w.heap.size + 1)
    (fun i _ => n - (intOf i).toNat)
  case atStart => exact ⟨0, Nat.zero_le _, rfl, (World.rowIs_made _ _ _ _).congr (fun _ _ => by simp), (Below.refl _ _).alloc (Nat.le_refl _) _, by simp⟩
  case round =>
    obtain ⟨k, hk, rfl, hrow, hnx, hsz⟩ := hrel
    by_cases hlt : k < n
    · obtain ⟨b, off, ela, hb, hc⟩ := hL.cell k hlt
      subst ela
      have c1 : wr.cell? ⟨b, off + k, none⟩ = some (.int .u64 (L k)) := (hnx.cell (p := ⟨b, off + k, none⟩) hb).trans hc
      have c2 : wr.cell? ⟨w.heap.size, k, none⟩ = some (.int .u64 0) := by rw [hrow.cell hlt]; simp
      have f2 : wr.frozen? ⟨w.heap.size, k, none⟩ = false := hrow.frozen k
      have hr := (hrow.set k (.int .u64 (L k))).congr (g := fun j => if j < k + 1 then .int .u64 (L j) else .int .u64 0) (fun j _ => by
        by_cases e : j = k
        · subst e; simp
        · by_cases e2 : j < k
          · simp [e, e2, show j < k + 1 by omega]
          · simp [e, e2, show ¬ j < k + 1 by omega])
      have HR : Hid ((wr.setCell ⟨w.heap.size, k, none⟩ (.int .u64 (L k))).rowIs w.heap.size 58 n (fun j => if j < k + 1 then .int .u64 (L j) else .int .u64 0)) := hr
      have HZ : Hid (wr.heap.size = w.heap.size + 1) := hsz
      clear hr hrow hsz
      go_wp2
      go_roundw
      case rel => exact ⟨k + 1, by omega, by go_num, HR.out, hnx.setCell (Nat.le_refl _) _, by simpa [World.setCell] using HZ.out⟩
      case measure => simp [intOf]; omega
    · obtain rfl : k = n := by omega
      have hrow2 := hrow.congr (g := fun j => .int .u64 (L j)) (fun j hj => by simp [hj])
      have HZ : Hid (wr.heap.size = w.heap.size + 1) := hsz
      clear hrow hsz
      go_wp2_with fail
      refine (group_any wr.heap.size w.heap.size k L F R fa fn fc ra rn rc _ hn hfn hfm hrn hwf ?hP ?hL ?hlt ?hF ?hR).mono ?_
      case hP =>
        refine (World.rowIs_alloc wr _ 62 (pf (.slice (some ⟨w.heap.size, 0, none⟩) k k) (.slice fa fn fc) (.slice ra rn rc) (.slice none 0 0) (.slice none 0 0)) ?_)
        intro i hi
        match i, hi with
        | 0, _ => rfl
        | 1, _ => rfl
        | 2, _ => rfl
        | 3, _ => rfl
        | 4, _ => rfl
        | 5, _ => rfl
        | 6, _ => rfl
      case hL => exact hrow2.alloc _
      case hlt => have := HZ.out; omega
      case hF => exact ((hF.later hnx).lift hnx.size).later ((Below.refl _ _).alloc (Nat.le_refl _) _)
      case hR => exact ((hR.later hnx).lift hnx.size).later ((Below.refl _ _).alloc (Nat.le_refl _) _)
      rintro e w1 ⟨rfl, vG, D, hgi⟩
      have hb1 : Below w.heap.size w w1 := (hnx.alloc hnx.size _).trans (hgi.below.mono hnx.size)
      have hlg := len_gs_le L F (resAt rn R) k
      obtain ⟨gl, egl⟩ : ∃ gl, gl = (gst L F (resAt rn R) k).gs.length := ⟨_, rfl⟩
      obtain ⟨ao, cap, hv⟩ : ∃ ao cap, vG = .slice ao gl cap := by
        rw [egl]
        rcases hgi.grp.2 with ⟨h, h0⟩ | ⟨g, cap, _, h, _⟩
        · exact ⟨none, 0, by rw [h, h0]⟩
        · exact ⟨_, cap, h⟩
      rw [← egl] at hlg
      subst hv
      have p5 : w1.cell? ⟨wr.heap.size, 5, none⟩ = some (.slice ao gl cap) := hgi.pool.cell (by omega)
      have p6 : w1.cell? ⟨wr.heap.size, 6, none⟩ = some (.slice (some ⟨wr.heap.size + 1, 0, none⟩) k k) := by simpa [pf] using hgi.pool.cell (i := 6) (by omega)
      have hPl := hgi.pool.lt
      have mk1 := run_make_row' (P := Try.prog) 33 41 (.int .u64 0) 8 Try.underlying33 info41 rfl .i64 .i64 gl (by omega) (by omega)
      have mk2 := run_make_row' (P := Try.prog) 22 3 (.int .i64 0) 8 Try.underlying22 info3 rfl .i64 .i64 gl (by omega) (by omega)
      have HI : Hid (_ ∧ gl = (gst L F (resAt rn R) k).gs.length) := ⟨hgi, egl⟩
      clear hgi egl hmk hrow2
      go_wp2
      obtain ⟨wo, rfl⟩ : ∃ wo : World, wo = wr := ⟨_, rfl⟩
      go_loopw [13] (fun i wr => ∃ q : Nat, q ≤ gl ∧ i = .int .i64 q ∧ wr.rowIs w1.heap.size 41 gl (fun j => if j < q then .int .u64 (tal (gst L F (resAt rn R) k).gs j).node else .int .u64 0) ∧ wr.rowIs (w1.heap.size + 1) 3 gl (fun j => if j < q then .int .i64 (tal (gst L F (resAt rn R) k).gs j).inst else .int .i64 0) ∧
          wr.rowIs (w1.heap.size + 1 + 1) 3 gl (fun j => if j < q then .int .i64 (tal (gst L F (resAt rn R) k).gs j).fre else .int .i64 0) ∧ Below w1.heap.size w1 wr)
        (fun i _ => gl - (intOf i).toNat)
      case atStart =>
        refine ⟨0, Nat.zero_le _, rfl, ?_, ?_, ?_, (((Below.refl _ _).alloc (Nat.le_refl _) _).alloc (by simp) _).alloc (by simp; omega) _⟩
        · exact (((World.rowIs_made _ _ _ _).alloc _).alloc _).congr (fun _ _ => by simp)
        · have := ((World.rowIs_made (w1.alloc (.cells (madeCells #[.int .u64 0] gl) 41)) (.int .i64 0) gl 3).alloc (.cells (madeCells #[.int .i64 0] gl) 3))
          simp only [World.size_alloc] at this
          exact this.congr (fun _ _ => by simp)
        · have := (World.rowIs_made ((w1.alloc (.cells (madeCells #[.int .u64 0] gl) 41)).alloc (.cells (madeCells #[.int .i64 0] gl) 3)) (.int .i64 0) gl 3)
          simp only [World.size_alloc] at this
          exact this.congr (fun _ _ => by simp)
      case round =>
        obtain ⟨q, hq, rfl, r1, r2, r3, hn1⟩ := hrel
        have d5 : wr.cell? ⟨wo.heap.size, 5, none⟩ = some (.slice ao gl cap) := (hn1.cell (p := ⟨wo.heap.size, 5, none⟩) hPl).trans p5
        have d6 : wr.cell? ⟨wo.heap.size, 6, none⟩ = some (.slice (some ⟨wo.heap.size + 1, 0, none⟩) k k) := (hn1.cell (p := ⟨wo.heap.size, 6, none⟩) hPl).trans p6
        by_cases hlt2 : q < gl
        · obtain ⟨hgi, egl⟩ := HI.out
          obtain ⟨g, cap', hv, hg, hglt⟩ := hgi.grp.form (by omega)
          have hgrp := hgi.grp
          have hfl := flat_at (gst L F (resAt rn R) k).gs q (by omega)
          rw [hv] at hgrp
          have g0 : w1.cell? ⟨g, q * 3, none⟩ = some (.int .u64 (tal (gst L F (resAt rn R) k).gs q).node) := by rw [hgrp.cellAt _ (by omega)]; exact hfl.1
          have g1 : w1.cell? ⟨g, q * 3 + 1, none⟩ = some (.int .i64 (tal (gst L F (resAt rn R) k).gs q).inst) := by rw [hgrp.cellAt _ (by omega)]; exact hfl.2.1
          have g2 : w1.cell? ⟨g, q * 3 + 2, none⟩ = some (.int .i64 (tal (gst L F (resAt rn R) k).gs q).fre) := by rw [hgrp.cellAt _ (by omega)]; exact hfl.2.2
          have g0' := (hn1.cell (p := ⟨g, q * 3, none⟩) hglt).trans g0
          have g1' := (hn1.cell (p := ⟨g, q * 3 + 1, none⟩) hglt).trans g1
          have g2' := (hn1.cell (p := ⟨g, q * 3 + 2, none⟩) hglt).trans g2
          simp only [Value.slice.injEq] at hv
          obtain ⟨rfl, _, rfl⟩ := hv
          have s0 : wr.cell? ⟨w1.heap.size, q, none⟩ = some (.int .u64 0) := by rw [r1.cell hlt2]; simp
          have s1 : wr.cell? ⟨w1.heap.size + 1, q, none⟩ = some (.int .i64 0) := by rw [r2.cell hlt2]; simp
          have s2 : wr.cell? ⟨w1.heap.size + 1 + 1, q, none⟩ = some (.int .i64 0) := by rw [r3.cell hlt2]; simp
          have t0 : wr.frozen? ⟨w1.heap.size, q, none⟩ = false := r1.frozen _
          have t1 : wr.frozen? ⟨w1.heap.size + 1, q, none⟩ = false := r2.frozen _
          have t2 : wr.frozen? ⟨w1.heap.size + 1 + 1, q, none⟩ = false := r3.frozen _
          obtain ⟨x0, ex0⟩ : ∃ x0, x0 = (tal (gst L F (resAt rn R) k).gs q).node := ⟨_, rfl⟩
          obtain ⟨x1, ex1⟩ : ∃ x1, x1 = (tal (gst L F (resAt rn R) k).gs q).inst := ⟨_, rfl⟩
          obtain ⟨x2, ex2⟩ : ∃ x2, x2 = (tal (gst L F (resAt rn R) k).gs q).fre := ⟨_, rfl⟩
          have R1 := ((row_fill (V := fun j => .int .u64 (tal (gst L F (resAt rn R) k).gs j).node) r1).setOther (a := ⟨w1.heap.size + 1, q, none⟩) (by simp) (.int .i64 x1)).setOther (a := ⟨w1.heap.size + 1 + 1, q, none⟩) (by simp; omega) (.int .i64 x2)
          have R2 := (row_fill (V := fun j => .int .i64 (tal (gst L F (resAt rn R) k).gs j).inst) (r2.setOther (a := ⟨w1.heap.size, q, none⟩) (by simp) (.int .u64 x0))).setOther (a := ⟨w1.heap.size + 1 + 1, q, none⟩) (by simp) (.int .i64 x2)
          have R3 := row_fill (V := fun j => .int .i64 (tal (gst L F (resAt rn R) k).gs j).fre) ((r3.setOther (a := ⟨w1.heap.size, q, none⟩) (by simp; omega) (.int .u64 x0)).setOther (a := ⟨w1.heap.size + 1, q, none⟩) (by simp) (.int .i64 x1))
          simp only [← ex0, ← ex1, ← ex2] at R1 R2 R3 g0' g1' g2'
          have HR : Hid (_ ∧ _ ∧ _) := ⟨R1, R2, R3⟩
          clear hgi egl hgrp hfl g0 g1 g2 R1 R2 R3 r1 r2 r3 ex0 ex1 ex2
          go_wp2
          go_roundw
          case rel => exact ⟨q + 1, by omega, by go_num, HR.out.1, HR.out.2.1, HR.out.2.2, ((hn1.setCell (Nat.le_refl _) _).setCell (by simp) _).setCell (by simp; omega) _⟩
          case measure => simp [intOf]; omega
        · obtain rfl : q = gl := by omega
          have HR : Hid (_ ∧ _ ∧ _) := ⟨r1.congr (g := fun j => .int .u64 (tal (gst L F (resAt rn R) k).gs j).node) (fun j hj => by simp [hj]), r2.congr (g := fun j => .int .i64 (tal (gst L F (resAt rn R) k).gs j).inst) (fun j hj => by simp [hj]), r3.congr (g := fun j => .int .i64 (tal (gst L F (resAt rn R) k).gs j).fre) (fun j hj => by simp [hj])⟩
          clear r1 r2 r3
          go_wp2
          refine bodyPost_ret (v := .tuple #[.slice (some ⟨wo.heap.size + 1, 0, none⟩) k k, .slice (some ⟨w1.heap.size, 0, none⟩) q q, .slice (some ⟨w1.heap.size + 1, 0, none⟩) q q, .slice (some ⟨w1.heap.size + 1 + 1, 0, none⟩) q q]) (by simp [results, Try.results24, go_sem]) rfl ⟨_, _, _, _, _, rfl, ?_⟩
          have hO := HI.out.1.ofr
          simp only [World.size_alloc] at hO
          exact ⟨hb1.trans (hn1.mono hb1.size), HI.out.2, row_later hO hn1 (by simpa using hO.lt), HR.out.1, HR.out.2.1, HR.out.2.2⟩
end Go.Proofs.Qxb6600123a
