/-
  Seat b6600123a: the store of failed states: what add computes, as plain lists; how it lies in memory.
-/
import Derived.Test.Qxb6600123aCovers
import Derived.Test.Qxb6600123aFreePlain
import Derived.Laws.CopyOwn
namespace Go.Proofs.Qxb6600123a
open Go.RowKit Go.Deep
set_option linter.unusedVariables false

/-- A state: its key, what each demand needs, its limit. -/
structure Sta where
  key : ByteArray
  need : List Int
  lim : Int

def Sta.at (s : Sta) (i : Nat) : Int := s.need.getD i 0

/-- Does the new state cover the old one; what it costs to tell. -/
def cov (t k : Nat) (nw s : Sta) : Bool := cvB nw.key nw.at nw.lim s.key t s.at s.lim k
def cos (t k : Nat) (nw s : Sta) : Int := cvC nw.key nw.at nw.lim s.key t s.at s.lim k

/-- The states that are kept. -/
def keptS (prune : Bool) (t k : Nat) (nw : Sta) (st : List Sta) : List Sta := st.filter (fun s => !(prune && cov t k nw s))
/-- The cost of telling which. -/
def costS (prune : Bool) (t k : Nat) (nw : Sta) : List Sta → Int
  | [] => 0
  | s :: r => (if prune then cos t k nw s else 0) + costS prune t k nw r
def fromS (most : Int) (l : List Sta) : Nat := if (l.length : Int) = most then 1 else 0
def addS (most : Int) (prune : Bool) (t k : Nat) (st : List Sta) (nw : Sta) : List Sta :=
  (keptS prune t k nw st).drop (fromS most (keptS prune t k nw st)) ++ [nw]

theorem costS_snoc (prune : Bool) (t k : Nat) (nw : Sta) (l : List Sta) (s : Sta) : costS prune t k nw (l ++ [s]) = costS prune t k nw l + (if prune then cos t k nw s else 0) := by
  induction l with
  | nil => simp [costS]
  | cons a r ih => simp only [List.cons_append, costS, ih]; omega

theorem costS_bound (prune : Bool) (t k : Nat) (nw : Sta) (l : List Sta) : 0 ≤ costS prune t k nw l ∧ costS prune t k nw l ≤ l.length * (2 + t + k) := by
  induction l with
  | nil => simp [costS]
  | cons a r ih =>
    have := cvC_bound nw.key nw.at nw.lim a.key t a.at a.lim k
    simp only [costS, cos, List.length_cons]
    have e : ((r.length + 1 : Nat) : Int) * (2 + t + k) = r.length * (2 + t + k) + (2 + t + k) := by rw [Int.natCast_add, Int.add_mul]; simp
    rw [e]
    split <;> omega

theorem costS_false (t k : Nat) (nw : Sta) (l : List Sta) : costS false t k nw l = 0 := by
  induction l with
  | nil => rfl
  | cons a r ih => simp [costS, ih]
theorem keptS_false (t k : Nat) (nw : Sta) (l : List Sta) : keptS false t k nw l = l := by simp [keptS]
theorem keptS_len (prune : Bool) (t k : Nat) (nw : Sta) (l : List Sta) : (keptS prune t k nw l).length ≤ l.length := List.length_filter_le _ _

/-! ### In memory -/
def keysV (st : List Sta) : List Value := st.map (fun s => .string s.key)
def limsV (st : List Sta) : List Value := st.map (fun s => .int .u64 s.lim)
def needV (st : List Sta) : List Value := st.flatMap (fun s => s.need.map (Value.int .i64))
def Wid (k : Nat) (st : List Sta) : Prop := ∀ s, s ∈ st → s.need.length = k

theorem len_keysV (st : List Sta) : (keysV st).length = st.length := by simp [keysV]
theorem len_limsV (st : List Sta) : (limsV st).length = st.length := by simp [limsV]
theorem len_needV {k : Nat} {st : List Sta} (h : Wid k st) : (needV st).length = st.length * k := by
  induction st with
  | nil => simp [needV]
  | cons s r ih =>
    have h1 := h s (by simp)
    have h2 := ih (fun x hx => h x (by simp [hx]))
    simp only [needV, List.flatMap_cons, List.length_append, List.length_map, List.length_cons] at h2 ⊢
    rw [h1, h2, Nat.add_mul]; omega

theorem keysV_app (a b : List Sta) : keysV (a ++ b) = keysV a ++ keysV b := by simp [keysV]
theorem limsV_app (a b : List Sta) : limsV (a ++ b) = limsV a ++ limsV b := by simp [limsV]
theorem needV_app (a b : List Sta) : needV (a ++ b) = needV a ++ needV b := by simp [needV]
theorem wid_drop {k : Nat} {st : List Sta} (h : Wid k st) (n : Nat) : Wid k (st.drop n) := fun s hs => h s (List.mem_of_mem_drop hs)
theorem wid_take {k : Nat} {st : List Sta} (h : Wid k st) (n : Nat) : Wid k (st.take n) := fun s hs => h s (List.mem_of_mem_take hs)
theorem wid_kept {k k2 t : Nat} {prune : Bool} {nw : Sta} {st : List Sta} (h : Wid k st) : Wid k (keptS prune t k2 nw st) := fun s hs => h s (List.mem_filter.1 hs).1
theorem wid_app {k : Nat} {a b : List Sta} (ha : Wid k a) (hb : Wid k b) : Wid k (a ++ b) := fun s hs => by
  rcases List.mem_append.1 hs with h | h
  · exact ha s h
  · exact hb s h

theorem keysV_drop (st : List Sta) (n : Nat) : keysV (st.drop n) = (keysV st).drop n := by simp [keysV]
theorem limsV_drop (st : List Sta) (n : Nat) : limsV (st.drop n) = (limsV st).drop n := by simp [limsV]
theorem needV_drop {k : Nat} {st : List Sta} (h : Wid k st) (n : Nat) (hn : n ≤ st.length) : needV (st.drop n) = (needV st).drop (n * k) := by
  have e : needV st = needV (st.take n) ++ needV (st.drop n) := by rw [← needV_app, List.take_append_drop]
  have el : (needV (st.take n)).length = n * k := by rw [len_needV (wid_take h n), List.length_take, Nat.min_eq_left hn]
  rw [e, ← el, List.drop_left]

/-- One piece laid over a list: what stands ahead of it and behind it. -/
theorem splice_step {α : Type} {xs A cs C : List α} {a b q : Nat} (hA : xs.take a = A) (ha : A.length = a) (hb : xs.drop b = cs ++ C) (hq : cs.length = q) (hab : a ≤ b) (hl : b + q ≤ xs.length) :
    (splice xs a cs).take (a + q) = A ++ cs ∧ (splice xs a cs).drop (b + q) = C ∧ (splice xs a cs).length = xs.length := by
  subst hq
  have hlen := length_splice xs a cs (by omega)
  refine ⟨?_, ?_, hlen⟩
  · unfold splice
    rw [hA, ← List.append_assoc, List.take_append_of_le_length (by simp; omega)]
    exact List.take_of_length_le (by simp; omega)
  · have e1 : xs.drop (b + cs.length) = C := by rw [← List.drop_drop, hb]; simp
    rw [← e1]
    apply List.ext_getElem?
    intro i
    rw [List.getElem?_drop, List.getElem?_drop]
    unfold splice
    rw [List.getElem?_append_right (by simp; omega), List.getElem?_append_right (by simp; omega), List.getElem?_drop]
    congr 1
    simp
    omega

theorem set_splice {α : Type} (xs : List α) (i : Nat) (v : α) (h : i < xs.length) : xs.set i v = splice xs i [v] := by
  unfold splice
  rw [List.set_eq_take_append_cons_drop, if_pos h]
  simp

/-- The j-th state's cells. -/
theorem key_at {xs : List Value} {st : List Sta} {j : Nat} (h : xs.drop j = keysV (st.drop j)) (hj : j < st.length) : xs[j]? = some (.string st[j].key) := by
  have := congrArg (fun l => l[0]?) h
  simp only [List.getElem?_drop, Nat.add_zero] at this
  rw [this]
  simp [keysV, hj]
theorem lim_at {xs : List Value} {st : List Sta} {j : Nat} (h : xs.drop j = limsV (st.drop j)) (hj : j < st.length) : xs[j]? = some (.int .u64 st[j].lim) := by
  have := congrArg (fun l => l[0]?) h
  simp only [List.getElem?_drop, Nat.add_zero] at this
  rw [this]
  simp [limsV, hj]
theorem need_at {k : Nat} {xs : List Value} {st : List Sta} {j i : Nat} (hw : Wid k st) (h : xs.drop (j * k) = needV (st.drop j)) (hj : j < st.length) (hi : i < k) : xs[j * k + i]? = some (.int .i64 (st[j].at i)) := by
  have := congrArg (fun l => l[i]?) h
  simp only [List.getElem?_drop] at this
  rw [this, List.drop_eq_getElem_cons hj]
  have hl : st[j].need.length = k := hw _ (List.getElem_mem hj)
  simp only [needV, List.flatMap_cons]
  rw [List.getElem?_append_left (by simp; omega)]
  simp [Sta.at, hl, hi]

end Go.Proofs.Qxb6600123a
