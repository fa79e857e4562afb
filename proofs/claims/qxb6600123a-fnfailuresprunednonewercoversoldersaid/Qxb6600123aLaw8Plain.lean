/-
  Seat b6600123a: one addition to a store, plain: which of the old states stay, by their numbers.
-/
import Derived.Test.Qxb6600123aLaw9Plain
namespace Go.Proofs.Qxb6600123a
open Go.RowKit Go.Deep
set_option linter.unusedVariables false

/-- The numbers, below j, of the states that are kept. -/
def kpt (prune : Bool) (t k : Nat) (nw : Sta) (f : Nat → Sta) (j : Nat) : List Nat := (List.range j).filter (fun i => !(prune && cov t k nw (f i)))
def fstS (f : Nat → Sta) (j : Nat) : List Sta := (List.range j).map f

section
variable (prune : Bool) (t k : Nat) (nw : Sta) (f : Nat → Sta)
theorem kpt_succ (j : Nat) : kpt prune t k nw f (j + 1) = if prune && cov t k nw (f j) then kpt prune t k nw f j else kpt prune t k nw f j ++ [j] := by
  unfold kpt
  rw [List.range_succ, List.filter_append]
  cases h : (prune && cov t k nw (f j))
  · rw [List.filter_cons_of_pos (by rw [h]; rfl)]
    rfl
  · rw [List.filter_cons_of_neg (by rw [h]; decide)]
    simp
theorem kpt_len (j : Nat) : (kpt prune t k nw f j).length ≤ j := by
  have := List.length_filter_le (fun i => !(prune && cov t k nw (f i))) (List.range j)
  simpa [kpt] using this
theorem kpt_lt {j x : Nat} (h : x ∈ kpt prune t k nw f j) : x < j := by
  have := (List.mem_filter.1 h).1
  simpa using this
theorem kpt_get {j i : Nat} (hi : i < (kpt prune t k nw f j).length) : (kpt prune t k nw f j)[i] < j := kpt_lt prune t k nw f (List.getElem_mem hi)
theorem kept_map (j : Nat) : keptS prune t k nw (fstS f j) = (kpt prune t k nw f j).map f := by
  unfold keptS fstS kpt
  rw [List.filter_map]
  rfl
theorem cost_succ (j : Nat) : costS prune t k nw (fstS f (j + 1)) = costS prune t k nw (fstS f j) + (if prune then cos t k nw (f j) else 0) := by
  unfold fstS
  rw [List.range_succ, List.map_append]
  exact costS_snoc ..
theorem len_fst (j : Nat) : (fstS f j).length = j := by simp [fstS]
theorem mem_fst {j : Nat} {s : Sta} (h : s ∈ fstS f j) : ∃ i, i < j ∧ s = f i := by
  simp only [fstS, List.mem_map, List.mem_range] at h
  obtain ⟨i, hi, e⟩ := h
  exact ⟨i, hi, e.symm⟩
end

/-- A run of states of width k: the i-th one's r-th need. -/
theorem needV_at {k : Nat} {l : List Sta} (hw : Wid k l) {i r : Nat} (hi : i < l.length) (hr : r < k) : (needV l)[i * k + r]? = some (.int .i64 (l[i].at r)) := by
  have h := needV_drop hw i (by omega)
  have := need_at (xs := needV l) (st := l) (j := i) (i := r) hw h.symm hi hr
  exact this

/-- The store behind the addition, cell by cell. -/
theorem add_cells (most : Int) (prune : Bool) (t k : Nat) (nw : Sta) (f : Nat → Sta) (n q m : Nat) (hwf : ∀ i, (f i).need.length = k) (hwn : nw.need.length = k)
    (hq : fromS most (keptS prune t k nw (fstS f n)) = q) (hm : (kpt prune t k nw f n).length - q = m) (hqm : q ≤ (kpt prune t k nw f n).length) :
    let A := addS most prune t k (fstS f n) nw
    A.length = m + 1 ∧ Wid k A ∧ (∀ i, i < m → ∃ x, x < n ∧ (kpt prune t k nw f n)[q + i]? = some x ∧ A[i]? = some (f x)) ∧ A[m]? = some nw := by
  intro A
  have hA : A = ((kpt prune t k nw f n).map f).drop q ++ [nw] := by
    show addS most prune t k (fstS f n) nw = _
    unfold addS
    rw [hq, kept_map]
  have hl : (((kpt prune t k nw f n).map f).drop q).length = m := by simp [hm]
  refine ⟨by rw [hA, List.length_append, hl]; rfl, ?_, fun i hi => ?_, ?_⟩
  · intro s hs
    rw [hA] at hs
    rcases List.mem_append.1 hs with h | h
    · have := List.mem_of_mem_drop h
      simp only [List.mem_map] at this
      obtain ⟨x, _, rfl⟩ := this
      exact hwf x
    · simp only [List.mem_singleton] at h
      subst h
      exact hwn
  · have hlt : q + i < (kpt prune t k nw f n).length := by omega
    refine ⟨(kpt prune t k nw f n)[q + i], kpt_get _ _ _ _ _ hlt, List.getElem?_eq_getElem hlt, ?_⟩
    rw [hA, List.getElem?_append_left (by omega), List.getElem?_drop, List.getElem?_map, List.getElem?_eq_getElem hlt]
    rfl
  · rw [hA, List.getElem?_append_right (by omega), hl]
    simp

end Go.Proofs.Qxb6600123a
