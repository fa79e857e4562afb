/-
  Seat b6600123a: a run of states of one width, cell by cell.
-/
import Derived.Test.Qxb6600123aLaw8Plain
namespace Go.Proofs.Qxb6600123a
open Go.RowKit Go.Deep
set_option linter.unusedVariables false

theorem out_cells {k l : Nat} {A : List Sta} (hl : A.length = l) (hw : Wid k A) (d : Sta) : ∃ V : Nat → Int,
    (∀ i, i < l → (keysV A)[i]? = some (.string (A.getD i d).key)) ∧ (∀ i, i < l → (limsV A)[i]? = some (.int .u64 (A.getD i d).lim)) ∧
    (∀ x, x < l * k → (needV A)[x]? = some (.int .i64 (V x))) ∧ ∀ i r, r < k → V (i * k + r) = (A.getD i d).at r := by
  subst hl
  refine ⟨fun x => (A.getD (x / k) d).at (x % k), fun i hi => ?_, fun i hi => ?_, fun x hx => ?_, fun i r hr => ?_⟩
  · simp [keysV, List.getD_eq_getElem?_getD, hi]
  · simp [limsV, List.getD_eq_getElem?_getD, hi]
  · have hk : 0 < k := by
      rcases Nat.eq_zero_or_pos k with h | h
      · subst h; simp at hx
      · exact h
    have hq : x / k < A.length := (Nat.div_lt_iff_lt_mul hk).2 hx
    have hr : x % k < k := Nat.mod_lt _ hk
    have h := needV_at hw hq hr
    rw [Nat.div_add_mod'] at h
    rw [h]
    simp [List.getD_eq_getElem?_getD, hq]
  · have hk : 0 < k := by omega
    have e1 : (i * k + r) / k = i := by
      rw [Nat.mul_comm, Nat.mul_add_div hk, Nat.div_eq_of_lt hr, Nat.add_zero]
    have e2 : (i * k + r) % k = r := by
      rw [Nat.mul_comm, Nat.mul_add_mod, Nat.mod_eq_of_lt hr]
    show (A.getD ((i * k + r) / k) d).at ((i * k + r) % k) = _
    rw [e1, e2]

/-- An own row, wherever its block lies. -/
theorem own_zero {w : World} {B : Nat} {e : TypeId} {v : Value} {n : Nat} {xs : List Value} (h : w.ownsRow B e 1 v n xs) : w.ownsRow 0 e 1 v n xs := by
  refine ⟨h.1, ?_⟩
  rcases h.2 with h' | ⟨g, cap, cur, e, hb, r⟩
  · exact .inl h'
  · exact .inr ⟨g, cap, cur, e, Nat.zero_le _, r⟩

end Go.Proofs.Qxb6600123a
