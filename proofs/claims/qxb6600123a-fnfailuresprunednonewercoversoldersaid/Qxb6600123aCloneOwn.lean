/-
  Seat b6600123a: the clones, as own rows.
-/
import Derived.Test.Qxb6600123aFailCalls
namespace Go.Proofs.Qxb6600123a
open Go.RowKit Go.Deep
set_option linter.unusedVariables false

set_option maxHeartbeats 400000 in
theorem cloneInts_own (a : Option Addr) (n c : Nat) (Z : Nat → Int) (w : World) (hn : n ≤ 1048576) (hin : In w.heap.size w a n c (fun i => .int .i64 (Z i))) :
    Calls Try.prog 13 #[.slice a n c] w fun e w' => ∃ ao co, e = .returned (.slice ao n co) ∧ Below w.heap.size w w' ∧ In w'.heap.size w' ao n co (fun i => .int .i64 (Z i)) ∧
      (∀ xs : List Value, xs.length = n → (∀ i, i < n → xs[i]? = some (.int .i64 (Z i))) → w'.ownsRow 0 3 1 (.slice ao n co) n xs) ∧ (∀ b, (Value.slice ao n co).ownBlock = some b → w.heap.size ≤ b) := by
  have q22 : ∀ (w : World) (a : Option Addr) (n c n' c' : Nat), (binOp .eql 22 (.slice a n c) (.slice none n' c')).run Try.prog w = .ok (.bool a.isNone) w := fun w a n c n' c' => Lib.run_eql_slice_nil w _ _ a n c n' c' Try.underlying22
  cases a with
  | none =>
    obtain ⟨rfl, rfl⟩ := hin.nil rfl
    clear hin
    go_enter Try.func13, Try.ntmps13
    go_wp2
    go_ret
    exact ⟨_, _, rfl, Below.refl _ _, ⟨Nat.le_refl _, (fun _ => ⟨rfl, rfl⟩), (fun i hi => absurd hi (by omega))⟩, (fun xs hl _ => by obtain rfl := List.eq_nil_of_length_eq_zero hl; exact World.ownsRow_nil _ _ _ _), (fun b hb => by cases hb)⟩
  | some ad =>
    have hmk := run_make_row' (P := Try.prog) 22 3 (.int .i64 0) 8 Try.underlying22 info3 rfl .i64 .i64 n (by omega) (by omega)
    by_cases h0 : n = 0
    · subst h0
      clear hin
      have hmk0 : ∀ w, (Instr.makeSlice 22 (.int .i64 0) (.int .i64 0)).run Try.prog w = .ok (.slice (some ⟨w.heap.size, 0, none⟩) 0 0) (w.alloc (.cells (madeCells #[.int .i64 0] 0) 3)) := hmk
      clear hmk
      go_enter Try.func13, Try.ntmps13
      go_wp2
      refine wp_loop_rounds 1 ?_
      rw [rounds_succ]
      go_wp2
      go_ret
      exact ⟨_, _, rfl, (Below.refl _ _).alloc (Nat.le_refl _) _, ⟨Nat.le_refl _, (fun h => nomatch h), (fun i hi => absurd hi (by omega))⟩, (fun xs hl hx => own_of_row ((World.rowIs_made _ _ _ _).congr (fun i hi => absurd hi (by omega))) (by decide) xs hl hx), (fun b hb => by cases hb; exact Nat.le_refl _)⟩
    · obtain ⟨b, off, e, hb, hc⟩ := hin.addr (by omega)
      cases e
      clear hin
      go_enter Try.func13, Try.ntmps13
      go_wp2
      go_loopw [4] (fun i wr => ∃ k : Nat, k ≤ n ∧ i = .int .i64 k ∧ wr.rowIs w.heap.size 3 n (fun j => if j < k then .int .i64 (Z j) else .int .i64 0) ∧ Below w.heap.size w wr)
        (fun i _ => n - (intOf i).toNat)
      case atStart => exact ⟨0, Nat.zero_le _, rfl, (World.rowIs_made _ _ _ _).congr (fun _ _ => by simp), (Below.refl _ _).alloc (Nat.le_refl _) _⟩
      case round =>
        obtain ⟨k, hk, rfl, hrow, hnx⟩ := hrel
        by_cases hlt : k < n
        · have c1 : wr.cell? ⟨b, off + k, none⟩ = some (.int .i64 (Z k)) := (hnx.cell (p := ⟨b, off + k, none⟩) hb).trans (hc k hlt)
          have c2 : wr.cell? ⟨w.heap.size, k, none⟩ = some (.int .i64 0) := by rw [hrow.cell hlt]; simp
          have f2 : wr.frozen? ⟨w.heap.size, k, none⟩ = false := hrow.frozen k
          have hr := (hrow.set k (.int .i64 (Z k))).congr (g := fun j => if j < k + 1 then .int .i64 (Z j) else .int .i64 0) (fun j _ => by
            by_cases e : j = k
            · subst e; simp
            · by_cases e2 : j < k
              · simp [e, e2, show j < k + 1 by omega]
              · simp [e, e2, show ¬ j < k + 1 by omega])
          have HR : Hid ((wr.setCell ⟨w.heap.size, k, none⟩ (.int .i64 (Z k))).rowIs w.heap.size 3 n (fun j => if j < k + 1 then .int .i64 (Z j) else .int .i64 0)) := hr
          clear hr hrow
          go_wp2
          go_roundw
          case rel => exact ⟨k + 1, by omega, by go_num, HR.out, hnx.setCell (Nat.le_refl _) _⟩
          case measure => simp [intOf]; omega
        · have : k = n := by omega
          subst this
          go_wp2
          go_ret
          have hrow2 := hrow.congr (g := fun j => .int .i64 (Z j)) (fun j hj => by simp [hj])
          exact ⟨_, _, rfl, hnx, In.of_row hrow2 _ _ (Nat.le_refl _) (Nat.le_refl _), (fun xs hl hx => own_of_row hrow2 (by unfold maxLen; omega) xs hl hx), (fun b hb => by cases hb; exact Nat.le_refl _)⟩
set_option maxHeartbeats 400000 in
theorem cloneStrings_own (a : Option Addr) (n c : Nat) (Z : Nat → ByteArray) (w : World) (hn : n ≤ 1048576) (hin : In w.heap.size w a n c (fun i => .string (Z i))) :
    Calls Try.prog 29 #[.slice a n c] w fun e w' => ∃ ao co, e = .returned (.slice ao n co) ∧ Below w.heap.size w w' ∧ In w'.heap.size w' ao n co (fun i => .string (Z i)) ∧
      (∀ xs : List Value, xs.length = n → (∀ i, i < n → xs[i]? = some (.string (Z i))) → w'.ownsRow 0 9 1 (.slice ao n co) n xs) ∧ (∀ b, (Value.slice ao n co).ownBlock = some b → w.heap.size ≤ b) := by
  have q43 : ∀ (w : World) (a : Option Addr) (n c n' c' : Nat), (binOp .eql 43 (.slice a n c) (.slice none n' c')).run Try.prog w = .ok (.bool a.isNone) w := fun w a n c n' c' => Lib.run_eql_slice_nil w _ _ a n c n' c' Try.underlying43
  cases a with
  | none =>
    obtain ⟨rfl, rfl⟩ := hin.nil rfl
    clear hin
    go_enter Try.func29, Try.ntmps29
    go_wp2
    go_ret
    exact ⟨_, _, rfl, Below.refl _ _, ⟨Nat.le_refl _, (fun _ => ⟨rfl, rfl⟩), (fun i hi => absurd hi (by omega))⟩, (fun xs hl _ => by obtain rfl := List.eq_nil_of_length_eq_zero hl; exact World.ownsRow_nil _ _ _ _), (fun b hb => by cases hb)⟩
  | some ad =>
    have hmk := run_make_row' (P := Try.prog) 43 9 (.string ByteArray.empty) 16 Try.underlying43 info9 rfl .i64 .i64 n (by omega) (by omega)
    by_cases h0 : n = 0
    · subst h0
      clear hin
      have hmk0 : ∀ w, (Instr.makeSlice 43 (.int .i64 0) (.int .i64 0)).run Try.prog w = .ok (.slice (some ⟨w.heap.size, 0, none⟩) 0 0) (w.alloc (.cells (madeCells #[.string ByteArray.empty] 0) 9)) := hmk
      clear hmk
      go_enter Try.func29, Try.ntmps29
      go_wp2
      refine wp_loop_rounds 1 ?_
      rw [rounds_succ]
      go_wp2
      go_ret
      exact ⟨_, _, rfl, (Below.refl _ _).alloc (Nat.le_refl _) _, ⟨Nat.le_refl _, (fun h => nomatch h), (fun i hi => absurd hi (by omega))⟩, (fun xs hl hx => own_of_row ((World.rowIs_made _ _ _ _).congr (fun i hi => absurd hi (by omega))) (by decide) xs hl hx), (fun b hb => by cases hb; exact Nat.le_refl _)⟩
    · obtain ⟨b, off, e, hb, hc⟩ := hin.addr (by omega)
      cases e
      clear hin
      go_enter Try.func29, Try.ntmps29
      go_wp2
      go_loopw [4] (fun i wr => ∃ k : Nat, k ≤ n ∧ i = .int .i64 k ∧ wr.rowIs w.heap.size 9 n (fun j => if j < k then .string (Z j) else .string ByteArray.empty) ∧ Below w.heap.size w wr)
        (fun i _ => n - (intOf i).toNat)
      case atStart => exact ⟨0, Nat.zero_le _, rfl, (World.rowIs_made _ _ _ _).congr (fun _ _ => by simp), (Below.refl _ _).alloc (Nat.le_refl _) _⟩
      case round =>
        obtain ⟨k, hk, rfl, hrow, hnx⟩ := hrel
        by_cases hlt : k < n
        · have c1 : wr.cell? ⟨b, off + k, none⟩ = some (.string (Z k)) := (hnx.cell (p := ⟨b, off + k, none⟩) hb).trans (hc k hlt)
          have c2 : wr.cell? ⟨w.heap.size, k, none⟩ = some (.string ByteArray.empty) := by rw [hrow.cell hlt]; simp
          have f2 : wr.frozen? ⟨w.heap.size, k, none⟩ = false := hrow.frozen k
          have hr := (hrow.set k (.string (Z k))).congr (g := fun j => if j < k + 1 then .string (Z j) else .string ByteArray.empty) (fun j _ => by
            by_cases e : j = k
            · subst e; simp
            · by_cases e2 : j < k
              · simp [e, e2, show j < k + 1 by omega]
              · simp [e, e2, show ¬ j < k + 1 by omega])
          have HR : Hid ((wr.setCell ⟨w.heap.size, k, none⟩ (.string (Z k))).rowIs w.heap.size 9 n (fun j => if j < k + 1 then .string (Z j) else .string ByteArray.empty)) := hr
          clear hr hrow
          go_wp2
          go_roundw
          case rel => exact ⟨k + 1, by omega, by go_num, HR.out, hnx.setCell (Nat.le_refl _) _⟩
          case measure => simp [intOf]; omega
        · have : k = n := by omega
          subst this
          go_wp2
          go_ret
          have hrow2 := hrow.congr (g := fun j => .string (Z j)) (fun j hj => by simp [hj])
          exact ⟨_, _, rfl, hnx, In.of_row hrow2 _ _ (Nat.le_refl _) (Nat.le_refl _), (fun xs hl hx => own_of_row hrow2 (by unfold maxLen; omega) xs hl hx), (fun b hb => by cases hb; exact Nat.le_refl _)⟩
end Go.Proofs.Qxb6600123a
