/-
  Seat b6600123a: the closed facts on the program's head that every row of this seat asks, told without decoding the head's long string (decoded by the kernel, each took some 9.5 GB).
-/
import Derived.Test.Qxb6600123aRows
import Derived.JoinedOf
import Derived.KernelRfl
namespace Go.Proofs.Qxb6600123a
open Go

/-- A string's signs are read off its literal, without decoding it. -/
theorem of_signs {α : Type} (f : List Char → α) {s : String} {l : List Char} {x : α} (h : s = String.ofList l) (e : f l = x) : f s.toList = x := by
  rw [h, String.toList_ofList]; exact e
set_option maxRecDepth 100000 in
theorem head_ok : (behindMainWord (wordsSigns Try.prog.initOrder.toList)).head? = some ['c', 'u', 't'] :=
  of_signs (fun l => (behindMainWord (wordsSigns l)).head?) (s := Try.prog.initOrder) rfl (by kernel_rfl)
theorem words_ok : ∃ r, behindMainWord (wordsSigns Try.prog.initOrder.toList) = ['c', 'u', 't'] :: r := by
  have h := head_ok
  cases hw : behindMainWord (wordsSigns Try.prog.initOrder.toList) with
  | nil => rw [hw] at h; cases h
  | cons c r => rw [hw] at h; simp at h; exact ⟨r, by rw [h]⟩

section
variable {P : Program} {r : List (List Char)}
theorem strip_cut (r : List (List Char)) : stripLifts liftWords (['c', 'u', 't'] :: r) = ([], ['c', 'u', 't'] :: r) := by rfl
theorem make_of (h : behindMainWord (wordsSigns P.initOrder.toList) = ['c', 'u', 't'] :: r) : P.make = some .cut := by
  unfold Program.make
  rw [h]
  rfl
theorem heads_of (h : behindMainWord (wordsSigns P.initOrder.toList) = ['c', 'u', 't'] :: r) : P.headLifts = [] := by
  unfold Program.headLifts
  rw [h, strip_cut]
  rfl
theorem lifts_of (h : behindMainWord (wordsSigns P.initOrder.toList) = ['c', 'u', 't'] :: r) : P.liftsFinal = false := by
  unfold Program.liftsFinal
  rw [h, heads_of h]
  rfl
theorem may_of (h : behindMainWord (wordsSigns P.initOrder.toList) = ['c', 'u', 't'] :: r) (h1 : P.laysLater = false) (h2 : P.bearsReflect = false) (h3 : P.doorFits [] = true) : P.mayEnter = true := by
  unfold Program.mayEnter
  rw [h]
  simp only [strip_cut, h1, h2, h3]
  rfl
end

theorem make_ok : Try.prog.make = some .cut := words_ok.elim fun _ h => make_of h
theorem lifts_ok : Try.prog.liftsFinal = false := words_ok.elim fun _ h => lifts_of h
theorem lays_ok : Try.prog.laysLater = false := by kernel_rfl
theorem refl_ok : Try.prog.bearsReflect = false := by kernel_rfl
theorem door_ok : Try.prog.doorFits [] = true := by kernel_rfl
theorem may_ok : Try.prog.mayEnter = true := words_ok.elim fun _ h => may_of h lays_ok refl_ok door_ok

end Go.Proofs.Qxb6600123a
