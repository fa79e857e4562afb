/-
  Seat b6600123a: equalInts and equalU64 at two rows that hold the same.
-/
import Derived.Test.Qxb6600123aBase
import Derived.Deep.QuietTactic
import Derived.BigQuiet
namespace Go.Proofs.Qxb6600123a
open Go.RowKit Go.Deep
set_option linter.unusedVariables false

set_option maxRecDepth 100000 in
theorem equalInts_true (g1 g2 n : Nat) (Z : Nat → Int) (w : World) (hn : n ≤ 1048576) (h1 : w.rowIs g1 3 n (fun i => .int .i64 (Z i))) (h2 : w.rowIs g2 3 n (fun i => .int .i64 (Z i))) :
    Calls Try.prog 19 #[.slice (some ⟨g1, 0, none⟩) n n, .slice (some ⟨g2, 0, none⟩) n n] w fun e w' => e = .returned (.bool true) ∧ ∃ d, w' = w.drewN d := by
  go_enter Try.func19, Try.ntmps19
  go_wp2
  go_loopw [5] (fun i wr => ∃ k d : Nat, k ≤ n ∧ i = .int .i64 k ∧ wr = w.drewN d) (fun i _ => n - (intOf i).toNat)
  case atStart => exact ⟨0, 0, Nat.zero_le _, rfl, rfl⟩
  case round =>
    obtain ⟨k, d, hk, rfl, rfl⟩ := hrel
    by_cases hlt : k < n
    · have c1 : w.cell? ⟨g1, k, none⟩ = some (.int .i64 (Z k)) := h1.cell hlt
      have c2 : w.cell? ⟨g2, k, none⟩ = some (.int .i64 (Z k)) := h2.cell hlt
      have i1 : (k : Int) < (n : Int) := by omega
      go_wp2
      go_quiet (fail)
      go_wp2
      go_roundw
      case rel => exact ⟨k + 1, _, by omega, by go_num, rfl⟩
      case measure => simp [intOf]; omega
    · go_wp2
      go_ret
      exact ⟨rfl, _, rfl⟩

set_option maxRecDepth 100000 in
theorem equalU64_true (g1 g2 n : Nat) (Z : Nat → Int) (w : World) (hn : n ≤ 1048576) (h1 : w.rowIs g1 41 n (fun i => .int .u64 (Z i))) (h2 : w.rowIs g2 41 n (fun i => .int .u64 (Z i))) :
    Calls Try.prog 27 #[.slice (some ⟨g1, 0, none⟩) n n, .slice (some ⟨g2, 0, none⟩) n n] w fun e w' => e = .returned (.bool true) ∧ ∃ d, w' = w.drewN d := by
  go_enter Try.func27, Try.ntmps27
  go_wp2
  go_loopw [5] (fun i wr => ∃ k d : Nat, k ≤ n ∧ i = .int .i64 k ∧ wr = w.drewN d) (fun i _ => n - (intOf i).toNat)
  case atStart => exact ⟨0, 0, Nat.zero_le _, rfl, rfl⟩
  case round =>
    obtain ⟨k, d, hk, rfl, rfl⟩ := hrel
    by_cases hlt : k < n
    · have c1 : w.cell? ⟨g1, k, none⟩ = some (.int .u64 (Z k)) := h1.cell hlt
      have c2 : w.cell? ⟨g2, k, none⟩ = some (.int .u64 (Z k)) := h2.cell hlt
      have i1 : (k : Int) < (n : Int) := by omega
      go_wp2
      go_quiet (fail)
      go_wp2
      go_roundw
      case rel => exact ⟨k + 1, _, by omega, by go_num, rfl⟩
      case measure => simp [intOf]; omega
    · go_wp2
      go_ret
      exact ⟨rfl, _, rfl⟩
end Go.Proofs.Qxb6600123a
