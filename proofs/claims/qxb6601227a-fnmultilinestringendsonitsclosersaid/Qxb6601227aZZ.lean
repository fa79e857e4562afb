/-
  Seat b6601227a: contracts of ZZMultilineString and of the bound on lengths.
-/
import Derived.Test.Qxb6601227aScan
namespace Go.Proofs.Qxb6601227a
open Go.RowKit
set_option linter.unusedVariables false
set_option linter.unusedSimpArgs false

theorem bytes7 (s : ByteArray) (k : Int) (w : World) (hs : s.size ≤ maxLen) : Calls Try.prog 7 #[.string s, .int .i64 k] w fun e w' => ∃ b, e = .returned (.bool b) ∧ w' = w := by
  unfold maxLen at hs
  go_enter Try.func7, Try.ntmps7
  go_wp2
  all_goals (go_ret; exact ⟨_, rfl, rfl⟩)

set_option maxHeartbeats 800000 in
theorem zzmulti (s : ByteArray) (pos : Nat) (w : World) (hs : s.size ≤ 1048576) (hp : pos < s.size) :
    Calls Try.prog 8 #[.string s, .int .i64 (pos : Int)] w fun e w' => ∃ r : Nat, e = .returned (.int .i64 (r : Nat)) ∧ Stop s pos r ∧ Grown w w' := by
  have h0 : Sc w w.heap.size s pos (w.alloc (.cells #[.string s, .int .i64 (pos : Int), .slice none 0 0, .map none, .map none, .map none] 34)) :=
    ⟨by simp, by simp, by simp, (Grown.refl _).alloc _ _⟩
  have HM : Hid _ := multi_any w w.heap.size s pos _ hs hp (Nat.le_refl _) h0
  clear h0
  go_enter Try.func8, Try.ntmps8
  go_wp2_with fail
  refine Calls.mono HM.out ?_
  rintro e w' ⟨rfl, r, hst, hsc⟩
  have c1 := hsc.pos
  have HS : Hid _ := hst
  have HC : Hid _ := hsc
  clear hst hsc
  go_wp2
  go_ret
  exact ⟨r, rfl, HS.out, HC.out.grown⟩

end Go.Proofs.Qxb6601227a
