/-
  Seat b6600123a: the store that prunes, plain.
-/
import Derived.Test.Qxb6600123aLaw8Plain
namespace Go.Proofs.Qxb6600123a
open Go.RowKit Go.Deep
set_option linter.unusedVariables false

section
variable {most : Int} {prune : Bool} {t k : Nat} {st : List Sta} {nw : Sta} {f : Nat → Sta}

theorem addS_sub {l : List Sta} (h : st.Sublist l) : (addS most prune t k st nw).Sublist (l ++ [nw]) := by
  unfold addS
  exact List.Sublist.append (((List.drop_sublist _ _).trans List.filter_sublist).trans h) (List.Sublist.refl _)
theorem stAt_sub (i : Nat) : (stAt most prune t k f i).Sublist ((List.range i).map f) := by
  induction i with
  | zero => simp [stAt]
  | succ i ih =>
    rw [List.range_succ, List.map_append]
    exact addS_sub ih
theorem addS_pair (h : st.Pairwise (fun a b => cov t k b a = false)) : (addS most true t k st nw).Pairwise (fun a b => cov t k b a = false) := by
  unfold addS
  rw [List.pairwise_append]
  refine ⟨h.sublist ((List.drop_sublist _ _).trans List.filter_sublist), by simp, ?_⟩
  intro a ha b hb
  simp only [List.mem_singleton] at hb
  subst hb
  have := (List.mem_filter.1 (List.mem_of_mem_drop ha)).2
  simpa using this
theorem stAt_pair (i : Nat) : (stAt most true t k f i).Pairwise (fun a b => cov t k b a = false) := by
  induction i with
  | zero => simp [stAt]
  | succ i ih => exact addS_pair ih
theorem stAt_cov (i : Nat) {a b : Nat} (hab : a < b) (hb : b < (stAt most true t k f i).length) : cov t k (stAt most true t k f i)[b] ((stAt most true t k f i)[a]'(by omega)) = false :=
  List.pairwise_iff_getElem.1 (stAt_pair i) a b (by omega) hb hab
theorem addS_most (h1 : 1 ≤ most) (h : (st.length : Int) ≤ most) : ((addS most prune t k st nw).length : Int) ≤ most := by
  have := keptS_len prune t k nw st
  simp only [addS, List.length_append, List.length_drop, List.length_singleton, fromS]
  split <;> omega
theorem stAt_most (h1 : 1 ≤ most) (i : Nat) : ((stAt most prune t k f i).length : Int) ≤ most := by
  induction i with
  | zero => simp [stAt]; omega
  | succ i ih => exact addS_most h1 ih
theorem addS_last : ∃ c, (addS most prune t k st nw).length = c + 1 ∧ (addS most prune t k st nw)[c]? = some nw := by
  unfold addS
  exact ⟨_, by rw [List.length_append]; rfl, by simp⟩
end

/-- What stands behind the e-th state stands, in order, among what came in behind p. -/
def Mat (st : List Sta) (n : Nat) (f : Nat → Sta) (e p : Nat) : Prop := (st.drop e).Sublist (((List.range n).map f).drop p)
theorem sub_step {s x : Sta} {r l : List Sta} (h : (s :: r).Sublist (x :: l)) : r.Sublist l := by
  cases h with
  | cons _ h => exact (List.sublist_cons_self _ _).trans h
  | cons_cons _ h => exact h
theorem sub_skip {s x : Sta} {r l : List Sta} (h : (s :: r).Sublist (x :: l)) (hne : s ≠ x) : (s :: r).Sublist l := by
  cases h with
  | cons _ h => exact h
  | cons_cons _ h => exact absurd rfl hne
theorem drop_in {n p : Nat} (f : Nat → Sta) (hp : p < n) : ((List.range n).map f).drop p = f p :: ((List.range n).map f).drop (p + 1) := by
  rw [List.drop_eq_getElem_cons (by simpa using hp)]
  simp
theorem Mat.step {st : List Sta} {n : Nat} {f : Nat → Sta} {e p : Nat} (h : Mat st n f e p) (he : e < st.length) (hp : p < n) : Mat st n f (e + 1) (p + 1) := by
  unfold Mat at h ⊢
  rw [List.drop_eq_getElem_cons he, drop_in f hp] at h
  exact sub_step h
theorem Mat.skip {st : List Sta} {n : Nat} {f : Nat → Sta} {e p : Nat} (h : Mat st n f e p) (he : e < st.length) (hp : p < n) (hne : st[e] ≠ f p) : Mat st n f e (p + 1) := by
  unfold Mat at h ⊢
  rw [drop_in f hp] at h
  rw [List.drop_eq_getElem_cons he] at h ⊢
  exact sub_skip h hne
theorem Mat.lt {st : List Sta} {n : Nat} {f : Nat → Sta} {e p : Nat} (h : Mat st n f e p) (he : e < st.length) : p < n := by
  by_cases hp : p < n
  · exact hp
  · unfold Mat at h
    have e0 : ((List.range n).map f).drop p = [] := List.drop_eq_nil_of_le (by simp; omega)
    rw [List.drop_eq_getElem_cons he, e0] at h
    cases h

end Go.Proofs.Qxb6600123a
