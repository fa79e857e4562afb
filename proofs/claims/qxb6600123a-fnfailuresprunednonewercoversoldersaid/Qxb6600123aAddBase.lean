/-
  Seat b6600123a: what the walk of (*failures).add needs.
-/
import Derived.Test.Qxb6600123aFailParts
import Derived.Test.Qxb6600123aHeld
import Derived.Deep.DeepCutAuto
import Derived.Deep.DrawnRows
namespace Go.Proofs.Qxb6600123a
open Go.RowKit Go.Deep
set_option linter.unusedVariables false
attribute [local go_sem ↓] Go.wp_at_zero Go.wp_at_succ

theorem siz9 : (Try.prog.info? 9).map (·.size) = some 1 := by kernel_rfl
theorem siz3 : (Try.prog.info? 3).map (·.size) = some 1 := by kernel_rfl
theorem siz58 : (Try.prog.info? 58).map (·.size) = some 1 := by kernel_rfl

theorem cut_list {α : Type} {xs A : List α} {c q d : Nat} (ht : xs.take c = A) (hc : c = A.length) (hd : c - q = d) : (A.drop q).length = d ∧ (∀ j u, (A.drop q)[j]? = some u → xs[q + j]? = some u) ∧ (d ≤ xs.length → (splice xs 0 (A.drop q)).take d = A.drop q) := by
  have hl : (A.drop q).length = d := by simp; omega
  refine ⟨hl, fun j u hu => ?_, fun hx => ?_⟩
  · rw [← ht, List.getElem?_drop, List.getElem?_take] at hu
    split at hu
    · exact hu
    · cases hu
  · unfold splice
    simp only [List.take_zero, List.nil_append, Nat.zero_add]
    rw [List.take_append_of_le_length (by omega)]
    exact List.take_of_length_le (by omega)

theorem copy_pos {W : World} {e : TypeId} {ao : Option Addr} {m cap q d : Nat} {xs cs : List Value} (own : W.ownsRow 0 e 1 (.slice ao m cap) m xs) (hq : q + d ≤ m) (hl : cs.length = d) (hx : ∀ j u, cs[j]? = some u → xs[q + j]? = some u) :
    0 < cs.length → ∃ g cap', Value.slice ao m cap = .slice (some ⟨g, 0, none⟩) m cap' ∧ ao = some ⟨g, 0, none⟩ ∧ ∃ ad, (if cap = q then ao else Option.map (fun x => x.add q) ao) = some ad ∧ ∀ j u, cs[j]? = some u → W.cell? (ad.add j) = some u := by
  intro h
  have hc := own_nil own
  obtain ⟨g, rfl, hlt, hcell⟩ := own_addr own (by omega)
  refine ⟨g, cap, rfl, rfl, ⟨g, q, none⟩, ?_, fun j u hu => ?_⟩
  · rw [if_neg (by omega)]
    simp [Addr.add_lit]
  · have hj : j < cs.length := (List.getElem?_eq_some_iff.1 hu).1
    rw [Addr.add_lit, hcell (q + j) (by omega)]
    exact hx j u hu

theorem own_same (ao : Option Addr) (n1 n2 c1 c2 : Nat) : (Value.slice ao n1 c1).ownBlock = (Value.slice ao n2 c2).ownBlock := by cases ao <;> rfl

theorem grown_drew {w w' : World} {row : Option Nat} (h : w.drew.grownBy w' row) : w.grownBy w' row := ⟨h.os, h.tape, h.output, h.size, h.block⟩
theorem grown_drew' {w w' : World} {row : Option Nat} (h : w.grownBy w' row) : w.grownBy w'.drew row := ⟨h.os, h.tape, h.output, h.size, h.block⟩
theorem grown_step {w w1 w2 : World} {row : Option Nat} (h : w.grownBy w1 none) (k : w1.grownBy w2 row) : w.grownBy w2 row :=
  ⟨k.os.trans h.os, k.tape.trans h.tape, k.output.trans h.output, Nat.le_trans h.size k.size, fun b hb hne => (k.block b (Nat.lt_of_lt_of_le hb h.size) hne).trans (h.block b hb (by simp))⟩
theorem grown_then {w w1 w2 : World} {row : Option Nat} (h : w.grownBy w1 row) (k : w1.grownBy w2 row) : w.grownBy w2 row :=
  ⟨k.os.trans h.os, k.tape.trans h.tape, k.output.trans h.output, Nat.le_trans h.size k.size, fun b hb hne => (k.block b (Nat.lt_of_lt_of_le hb h.size) hne).trans (h.block b hb hne)⟩

/-- Behind the copy: the store's own cells, the first d of the array, and that nothing else has turned. -/
theorem after_copy {wc W wa : World} {P m cap d i : Nat} {e : TypeId} {ao : Option Addr} {v : Value} {xs cs : List Value} (hW : wc.grownBy W none) (hga : W.grownBy wa (Value.slice ao m cap).ownBlock) (pK : some P ≠ (Value.slice ao m cap).ownBlock) (hPl : P < wc.heap.size)
    (c0 : wc.cell? ⟨P, i, none⟩ = some v) (f0 : wc.frozen? ⟨P, i, none⟩ = false) (owa : wa.ownsRow 0 e 1 (.slice ao m cap) m (splice xs 0 cs)) (hd : d ≤ m) (h3 : (splice xs 0 cs).take d = cs) :
    wa.cell? ⟨P, i, none⟩ = some v ∧ wa.frozen? ⟨P, i, none⟩ = false ∧ wa.ownsRow 0 e 1 (.slice ao d cap) d cs ∧ wc.grownBy wa (Value.slice ao m cap).ownBlock := by
  have hg := grown_step hW hga
  refine ⟨hg.cell c0 pK, (hg.frozen_far ⟨P, i, none⟩ hPl pK).trans f0, ?_, hg⟩
  have h := own_cut owa hd
  rw [h3] at h
  exact h

/-- Behind the append. -/
theorem after_append {wc W wa wb : World} {P m cap d i : Nat} {ao : Option Addr} {v v2 : Value} {S : Nat → Prop} (hga : wc.grownBy wa (Value.slice ao m cap).ownBlock) (hW : wa.grownBy W none) (hgb : W.grownBy wb (Value.slice ao d cap).ownBlock)
    (pK : some P ≠ (Value.slice ao m cap).ownBlock) (hPl : P < wc.heap.size) (c0 : wc.cell? ⟨P, i, none⟩ = some v) (f0 : wc.frozen? ⟨P, i, none⟩ = false)
    (hlb : ∀ b, v2.ownBlock = some b → (Value.slice ao d cap).ownBlock = some b ∨ W.heap.size ≤ b) (hsK : ∀ b, (Value.slice ao m cap).ownBlock = some b → S b) (hS : ∀ b, wc.heap.size ≤ b → S b) :
    wb.cell? ⟨P, i, none⟩ = some v ∧ wb.frozen? ⟨P, i, none⟩ = false ∧ wc.grownBy wb (Value.slice ao m cap).ownBlock ∧ ∀ b, v2.ownBlock = some b → S b := by
  rw [own_same ao d m cap cap] at hgb hlb
  have hg := grown_then hga (grown_step hW hgb)
  refine ⟨hg.cell c0 pK, (hg.frozen_far ⟨P, i, none⟩ hPl pK).trans f0, hg, fun b hb => ?_⟩
  rcases hlb b hb with h | h
  · exact hsK b h
  · exact hS b (Nat.le_trans (Nat.le_trans hga.size hW.size) h)

/-- A region of a function's text, by its number. -/
def findReg (n : Nat) : Code → Option Code
  | .region id ops b => if id = n then some (.region id ops b) else none
  | .seq a b => match findReg n a with
    | some c => some c
    | none => findReg n b
  | .loop c => findReg n c
  | .block _ c => findReg n c
  | .scope c => findReg n c
  | .cond _ a b => match findReg n a with
    | some c => some c
    | none => findReg n b
  | _ => none

/-- What the pruning phase leaves: the first of each array are the kept states; the rest is whatever lies there. -/
structure Pruned (S : Nat → Prop) (w wc : World) (P : Nat) (most : Int) (prune : Bool) (vK vN vM : Value) (k m : Nat) (L : List Sta) (xk xn xm : List Value) : Prop where
  fa : FA S wc P most prune vK vN vM xk xn xm
  fr : Fr S w wc
  lk : xk.length = m
  ln : xn.length = m * k
  lm : xm.length = m
  tk : xk.take L.length = keysV L
  tn : xn.take (L.length * k) = needV L
  tm : xm.take L.length = limsV L

end Go.Proofs.Qxb6600123a
