/-
  Seat b6600123a: the store after i states have been added, plain.
-/
import Derived.Test.Qxb6600123aFailPlain
namespace Go.Proofs.Qxb6600123a
open Go.RowKit Go.Deep
set_option linter.unusedVariables false

/-- The i-th state that came in. -/
def sx (k : Nat) (Ks : Nat → ByteArray) (Ns : Nat → Int) (Ls : Nat → Int) (i : Nat) : Sta := ⟨Ks i, (List.range k).map (fun r => Ns (i * k + r)), Ls i⟩
/-- The store behind i of them. -/
def stAt (most : Int) (prune : Bool) (t k : Nat) (f : Nat → Sta) : Nat → List Sta
  | 0 => []
  | i + 1 => addS most prune t k (stAt most prune t k f i) (f i)

theorem sx_at (k : Nat) (Ks : Nat → ByteArray) (Ns Ls : Nat → Int) (i r : Nat) (hr : r < k) : (sx k Ks Ns Ls i).at r = Ns (i * k + r) := by
  simp [Sta.at, sx, List.getD_eq_getElem?_getD, hr]
theorem sx_len (k : Nat) (Ks : Nat → ByteArray) (Ns Ls : Nat → Int) (i : Nat) : (sx k Ks Ns Ls i).need.length = k := by simp [sx]

theorem addS_len (most : Int) (prune : Bool) (t k : Nat) (st : List Sta) (nw : Sta) : (addS most prune t k st nw).length ≤ st.length + 1 := by
  have := keptS_len prune t k nw st
  simp only [addS, List.length_append, List.length_drop, List.length_singleton]
  omega
theorem addS_mem {most : Int} {prune : Bool} {t k : Nat} {st : List Sta} {nw s : Sta} (h : s ∈ addS most prune t k st nw) : s ∈ st ∨ s = nw := by
  simp only [addS, List.mem_append, List.mem_singleton] at h
  rcases h with h | h
  · exact .inl (List.mem_filter.1 (List.mem_of_mem_drop h)).1
  · exact .inr h
theorem stAt_len (most : Int) (prune : Bool) (t k : Nat) (f : Nat → Sta) (i : Nat) : (stAt most prune t k f i).length ≤ i := by
  induction i with
  | zero => simp [stAt]
  | succ i ih =>
    have := addS_len most prune t k (stAt most prune t k f i) (f i)
    simp only [stAt]
    omega
theorem stAt_mem {most : Int} {prune : Bool} {t k : Nat} {f : Nat → Sta} {i : Nat} {s : Sta} (h : s ∈ stAt most prune t k f i) : ∃ j, j < i ∧ s = f j := by
  induction i with
  | zero => simp [stAt] at h
  | succ i ih =>
    rcases addS_mem h with h | h
    · obtain ⟨j, hj, e⟩ := ih h
      exact ⟨j, by omega, e⟩
    · exact ⟨i, by omega, h⟩

theorem stAt_false (most : Int) (h1 : 1 ≤ most) (t k : Nat) (f : Nat → Sta) (i : Nat) : stAt most false t k f i = ((List.range i).map f).drop (i - most.toNat) := by
  induction i with
  | zero => simp [stAt]
  | succ i ih =>
    have hl : (((List.range i).map f).drop (i - most.toNat)).length = i - (i - most.toNat) := by simp
    simp only [stAt, addS, keptS_false, ih, fromS, hl]
    rw [List.range_succ, List.map_append]
    by_cases hc : i < most.toNat
    · have e1 : i - most.toNat = 0 := by omega
      have e2 : i + 1 - most.toNat = 0 := by omega
      rw [if_neg (by omega), e1, e2]
      simp
    · rw [if_pos (by omega), List.drop_drop, List.drop_append_of_le_length (by simp; omega)]
      rw [show i - most.toNat + 1 = i + 1 - most.toNat by omega]
      rfl

theorem needV_range (k : Nat) (Ks : Nat → ByteArray) (Ns Ls : Nat → Int) (n : Nat) : needV ((List.range n).map (sx k Ks Ns Ls)) = (List.range (n * k)).map (fun x => .int .i64 (Ns x)) := by
  induction n with
  | zero => simp [needV]
  | succ n ih =>
    rw [List.range_succ, List.map_append, needV_app, ih, Nat.add_mul, Nat.one_mul, List.range_add, List.map_append]
    congr 1
    simp [needV, sx]

theorem wid_range (k : Nat) (Ks : Nat → ByteArray) (Ns Ls : Nat → Int) (n : Nat) : Wid k ((List.range n).map (sx k Ks Ns Ls)) := by
  intro s hs
  simp only [List.mem_map] at hs
  obtain ⟨i, _, rfl⟩ := hs
  exact sx_len ..
theorem wid_stAt {most : Int} {prune : Bool} {t k : Nat} (Ks : Nat → ByteArray) (Ns Ls : Nat → Int) (i : Nat) : Wid k (stAt most prune t k (sx k Ks Ns Ls) i) := by
  intro s hs
  obtain ⟨j, _, rfl⟩ := stAt_mem hs
  exact sx_len ..

/-- The store that does not prune, cell by cell. -/
theorem last_cells (most : Int) (h1 : 1 ≤ most) (t k : Nat) (Ks : Nat → ByteArray) (Ns Ls : Nat → Int) (n q : Nat) (hq : n - most.toNat = q) :
    (stAt most false t k (sx k Ks Ns Ls) n).length = n - q ∧ (∀ i, i < n - q → (keysV (stAt most false t k (sx k Ks Ns Ls) n))[i]? = some (.string (Ks (q + i)))) ∧
    (∀ i, i < n - q → (limsV (stAt most false t k (sx k Ks Ns Ls) n))[i]? = some (.int .u64 (Ls (q + i)))) ∧
    (∀ x, x < (n - q) * k → (needV (stAt most false t k (sx k Ks Ns Ls) n))[x]? = some (.int .i64 (Ns (q * k + x)))) := by
  rw [stAt_false most h1, hq]
  refine ⟨by simp, fun i hi => ?_, fun i hi => ?_, fun x hx => ?_⟩
  · rw [keysV_drop, List.getElem?_drop]
    simp [keysV, show q + i < n by omega, sx]
  · rw [limsV_drop, List.getElem?_drop]
    simp [limsV, show q + i < n by omega, sx]
  · rw [needV_drop (wid_range k Ks Ns Ls n) q (by simp; omega), needV_range, List.getElem?_drop]
    have : q * k + x < n * k := by rw [Nat.sub_mul] at hx; omega
    simp [this]

end Go.Proofs.Qxb6600123a
