/-
  Seat b6600123a: a slice argument of one-cell elements, opened into 'In'.
-/
import Derived.Test.Qxb6600123aBase
import Derived.ProofKit
import Derived.OpenShut
import Derived.ShutString
import Derived.ChangeOld
import Derived.Below
import Derived.Deep.Slices
namespace Go.Proofs.Qxb6600123a
open Go.ChangeShapes Go.WideShapes Go.ChangeAt Go.RowKit Go.Deep
set_option linter.unusedVariables false

theorem own : ownKnob Try.prog.godebug = none := by kernel_rfl
theorem laidOut : laidOutB Try.prog = true := by kernel_rfl

section
variable {H : Type} {enc : TypeId × Value → H} {W : World} {t e : TypeId} {a : Option Addr} {n c : Nat} {d : DataW H} {p : List MemPlace}

theorem open_in {α : Type} [Inhabited α] (mk : α → Value) (good : α → Prop) (ht : Try.prog.underlying t = some (.slice e)) (hc : Try.prog.cellsOf e = 1)
    (hg : ∀ fuel v x, DataW.trod enc Try.prog W 0 (fun _ => true) true fuel e [v] = some x → ∃ z, v = mk z ∧ good z)
    (h : DataW.Trod enc Try.prog W 0 (fun _ => true) true t (.slice a n c) d p) :
    n ≤ maxLen ∧ ∃ Z : Nat → α, In W.heap.size W a n c (fun i => mk (Z i)) ∧ ∀ i, i < n → good (Z i) := by
  obtain ⟨fuel, hf⟩ := h
  rcases open_slice1 ht hc hf with ⟨hcs, _⟩ | ⟨x, len, cap, m, q, V, D, Pl, hcs, _, hl, hm, hmm, _, hx⟩
  · simp [Value.cells] at hcs
    obtain ⟨rfl, rfl, rfl⟩ := hcs
    exact ⟨Nat.zero_le _, fun _ => default, ⟨Nat.le_refl _, fun _ => ⟨rfl, rfl⟩, fun i hi => absurd hi (by omega)⟩, fun i hi => absurd hi (by omega)⟩
  · simp [Value.cells] at hcs
    obtain ⟨rfl, rfl, rfl⟩ := hcs
    simp only [if_true] at hmm
    subst hmm
    obtain ⟨Z, hZ⟩ := choose_lt (α := α) (p := fun i z => V i = mk z ∧ good z) (n := n) (fun i hi => hg _ _ _ (hx i (by omega)).2)
    refine ⟨by omega, Z, ⟨hl, (fun h => nomatch h), fun i hi => ?_⟩, fun i hi => (hZ i hi).2⟩
    obtain ⟨b, off, spot⟩ := x
    have hcell := (hx i (by omega)).1
    have hs : spot = none := by simpa [Addr.add] using World.cell?_spot (hx 0 (by omega)).1
    subst hs
    have e1 : (⟨b, off, none⟩ : Addr).add i = ⟨b, off + i, none⟩ := by rw [Addr.add_lit]
    rw [e1] at hcell
    exact ⟨b, off, rfl, World.block_lt_of_cell? _ _ hcell, by rw [hcell, (hZ i hi).1]⟩

theorem open_u64 (h : DataW.Trod enc Try.prog W 0 (fun _ => true) true 33 (.slice a n c) d p) : n ≤ maxLen ∧ ∃ Z : Nat → Int, In W.heap.size W a n c (fun i => .int .u64 (Z i)) ∧ ∀ i, i < n → (Lit.int .u64 (Z i)).wf = true :=
  open_in (.int .u64) (fun z => (Lit.int .u64 z).wf = true) Try.underlying33 (by kernel_rfl) (fun fuel v x hv => by
    obtain ⟨z, h1, _, h2⟩ := DataW.trod_int Try.underlying41 hv
    exact ⟨z, by simpa using h1, h2⟩) h

theorem open_i64 (h : DataW.Trod enc Try.prog W 0 (fun _ => true) true 22 (.slice a n c) d p) : n ≤ maxLen ∧ ∃ Z : Nat → Int, In W.heap.size W a n c (fun i => .int .i64 (Z i)) ∧ ∀ i, i < n → (Lit.int .i64 (Z i)).wf = true :=
  open_in (.int .i64) (fun z => (Lit.int .i64 z).wf = true) Try.underlying22 (by kernel_rfl) (fun fuel v x hv => by
    obtain ⟨z, h1, _, h2⟩ := DataW.trod_int Try.underlying3 hv
    exact ⟨z, by simpa using h1, h2⟩) h

theorem open_boo (h : DataW.Trod enc Try.prog W 0 (fun _ => true) true 34 (.slice a n c) d p) : n ≤ maxLen ∧ ∃ Z : Nat → Bool, In W.heap.size W a n c (fun i => .bool (Z i)) := by
  obtain ⟨h1, Z, h2, _⟩ := open_in (α := Bool) .bool (fun _ => True) Try.underlying34 (by kernel_rfl) (fun fuel v x hv => by
    obtain ⟨z, h1, _⟩ := DataW.trod_bool Try.underlying4 hv
    exact ⟨z, by simpa using h1, trivial⟩) h
  exact ⟨h1, Z, h2⟩

theorem open_str (h : DataW.Trod enc Try.prog W 0 (fun _ => true) true 43 (.slice a n c) d p) : n ≤ maxLen ∧ ∃ Z : Nat → ByteArray, In W.heap.size W a n c (fun i => .string (Z i)) ∧ ∀ i, i < n → (Z i).size ≤ maxLen :=
  open_in (α := ByteArray) .string (fun s => s.size ≤ maxLen) Try.underlying43 (by kernel_rfl) (fun fuel v x hv => by
    obtain ⟨z, h1, _, h2⟩ := DataW.trod_string Try.underlying9 hv
    exact ⟨z, by simpa using h1, h2⟩) h
end

end Go.Proofs.Qxb6600123a
