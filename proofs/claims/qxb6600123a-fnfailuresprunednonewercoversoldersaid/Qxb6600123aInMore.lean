/-
  Seat b6600123a: more on slices that can be read.
-/
import Derived.Test.Qxb6600123aFailParts
namespace Go.Proofs.Qxb6600123a
open Go.RowKit Go.Deep
set_option linter.unusedVariables false

theorem In.nil2 (B : Nat) (w : World) (V : Nat → Value) : In B w none 0 0 V := ⟨Nat.le_refl _, fun _ => ⟨rfl, rfl⟩, fun i hi => absurd hi (by omega)⟩
/-- An own row, as a slice that can be read. -/
theorem In.own {w : World} {e : TypeId} {ao : Option Addr} {m cap : Nat} {xs : List Value} {f : Nat → Value} (h : w.ownsRow 0 e 1 (.slice ao m cap) m xs) (hx : ∀ i, i < m → xs[i]? = some (f i)) : In w.heap.size w ao m cap f := by
  have hn := own_nil h
  refine ⟨hn.1, hn.2.2, fun i hi => ?_⟩
  obtain ⟨g, rfl, hlt, hc⟩ := own_addr h (by omega)
  exact ⟨g, 0, rfl, hlt, by rw [Nat.zero_add, hc i hi]; exact hx i hi⟩
/-- A part of a slice. -/
theorem In.cut {B : Nat} {w : World} {a : Option Addr} {n c : Nat} {f : Nat → Value} (h : In B w a n c f) (q k : Nat) (hq : q + k ≤ n) : In B w (if c = q then a else Option.map (fun x => x.add q) a) k (c - q) (fun i => f (q + i)) := by
  have hc := h.le
  refine ⟨by omega, fun hn => ?_, fun i hi => ?_⟩
  · have : a = none := by
      split at hn
      · exact hn
      · simpa using hn
    have := h.nil this
    omega
  · obtain ⟨b, off, rfl, hb, hcell⟩ := h.cell (q + i) (by omega)
    refine ⟨b, off + q, ?_, hb, by rw [Nat.add_assoc]; exact hcell⟩
    rw [if_neg (by omega)]
    simp [Addr.add_lit]

end Go.Proofs.Qxb6600123a
