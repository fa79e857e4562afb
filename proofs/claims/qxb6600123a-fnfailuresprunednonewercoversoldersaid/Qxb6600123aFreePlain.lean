/-
  Seat b6600123a: which units are free changes no group, no node set and no installed count: the plain law. Nothing of the dump.
-/
import Derived.Test.Qxb6600123aGroupPlain
namespace Go.Proofs.Qxb6600123a

/-- The sum of the first k values. -/
def sumTo (f : Nat → Int) : Nat → Int
  | 0 => 0
  | k + 1 => sumTo f k + f k

theorem sumTo_congr {f g : Nat → Int} (k : Nat) (h : ∀ i, i < k → f i = g i) : sumTo f k = sumTo g k := by
  induction k with
  | zero => rfl
  | succ k ih => simp only [sumTo]; rw [ih (fun i hi => h i (by omega)), h k (by omega)]

theorem sumTo_bump {f g : Nat → Int} (q m : Nat) (hq : q < m) (h : ∀ i, g i = if i = q then f i + 1 else f i) : sumTo g m = sumTo f m + 1 := by
  induction m with
  | zero => omega
  | succ m ih =>
    simp only [sumTo]
    by_cases e : q = m
    · subst e
      rw [sumTo_congr q (g := f) (fun i hi => by rw [h i, if_neg (by omega)]), h q, if_pos rfl]
      omega
    · rw [ih (by omega), h m, if_neg (by omega)]
      omega

theorem sumTo_bound {f : Nat → Int} (k : Nat) (c : Int) (h : ∀ i, 0 ≤ f i ∧ f i ≤ c) : 0 ≤ sumTo f k ∧ sumTo f k ≤ k * c := by
  induction k with
  | zero => simp [sumTo]
  | succ k ih =>
    have := h k
    simp only [sumTo]
    have e : ((k + 1 : Nat) : Int) * c = k * c + c := by rw [Int.natCast_add, Int.add_mul]; simp
    rw [e]
    omega

/-- How many of the first k units are free and not reserved. -/
def cntTo (F R : Nat → Bool) : Nat → Int := sumTo (fun u => if !R u && F u then 1 else 0)

theorem cntTo_bound (F R : Nat → Bool) (k : Nat) : 0 ≤ cntTo F R k ∧ cntTo F R k ≤ k := by
  have := sumTo_bound (f := fun u => if !R u && F u then 1 else 0) k 1 (fun i => by split <;> omega)
  simpa [cntTo] using this

section
variable (L : Nat → Int) (F F' R : Nat → Bool)

theorem same_all (k : Nat) : (gst L F' R k).ofs = (gst L F R k).ofs ∧ (gst L F' R k).gs.map Tal.node = (gst L F R k).gs.map Tal.node ∧ ∀ i, (tal (gst L F' R k).gs i).inst = (tal (gst L F R k).gs i).inst := by
  induction k with
  | zero => exact ⟨rfl, rfl, fun _ => rfl⟩
  | succ k ih =>
    obtain ⟨h1, h2, h3⟩ := ih
    have hx : ∀ x, idx (gst L F' R k).gs x = idx (gst L F R k).gs x := fun x => by
      have e : ∀ l : List Tal, idx l x = (l.map Tal.node).findIdx (· == x) := fun l => by simp [idx, List.findIdx_map]; rfl
      rw [e, e, h2]
    have hl : (gst L F' R k).gs.length = (gst L F R k).gs.length := by have := congrArg List.length h2; simpa using this
    cases h : R k
    · have hlen : (gst L F' R (k + 1)).gs.length = (gst L F R (k + 1)).gs.length := by rw [len_gs_succ L F' R k h, len_gs_succ L F R k h, hx, hl]
      have hn : ∀ i, (tal (gst L F' R k).gs i).node = (tal (gst L F R k).gs i).node := fun i => by
        have e : ∀ l : List Tal, (tal l i).node = (l.map Tal.node).getD i 0 := fun l => by
          simp only [tal, List.getD_eq_getElem?_getD, List.getElem?_map]
          cases l[i]? <;> rfl
        rw [e, e, h2]
      refine ⟨?_, ?_, fun i => ?_⟩
      · rw [gst_succ L F' R k h, gst_succ L F R k h]; simp only; rw [h1, hx]
      · apply List.ext_getElem
        · simpa using hlen
        · intro i hi1 hi2
          have a1 : i < (gst L F' R (k + 1)).gs.length := by simpa using hi1
          have a2 : i < (gst L F R (k + 1)).gs.length := by simpa using hi2
          have e1 := node_succ L F' R k i h
          have e2 := node_succ L F R k i h
          rw [hx, hn i] at e1
          rw [List.getElem_map, List.getElem_map, ← tal_lt a1, ← tal_lt a2, e1, e2]
      · rw [tal_succ L F' R k i h, tal_succ L F R k i h, hx, ← h3 i]
        split
        · simp only
        · exact h3 i
    · rw [gst_succ_res L F' R k h, gst_succ_res L F R k h]
      exact ⟨by rw [h1], h2, h3⟩

theorem same_len (k : Nat) : (gst L F' R k).gs.length = (gst L F R k).gs.length := by
  have := congrArg List.length (same_all L F F' R k).2.1
  simpa using this

theorem same_node (k i : Nat) : (tal (gst L F' R k).gs i).node = (tal (gst L F R k).gs i).node := by
  have e : ∀ l : List Tal, (tal l i).node = (l.map Tal.node).getD i 0 := fun l => by
    simp only [tal, List.getD_eq_getElem?_getD, List.getElem?_map]
    cases l[i]? <;> rfl
  rw [e, e, (same_all L F F' R k).2.1]

/-- With every unit free each free count is the installed count. -/
theorem all_free (n k i : Nat) (hF : ∀ u, u < n → F u = true) (hk : k ≤ n) : (tal (gst L F R k).gs i).fre = (tal (gst L F R k).gs i).inst := by
  induction k with
  | zero => rfl
  | succ k ih =>
    have ih := ih (by omega)
    cases h : R k
    · rw [tal_succ L F R k i h, hF k (by omega)]
      split
      · simp only [if_true]; rw [ih]
      · exact ih
    · rw [gst_succ_res L F R k h]; exact ih

/-- The free counts add up to the free units that are not reserved. -/
theorem sum_free (k m : Nat) (hm : (gst L F R k).gs.length ≤ m) : sumTo (fun i => (tal (gst L F R k).gs i).fre) m = cntTo F R k := by
  induction k with
  | zero =>
    have : sumTo (fun i => (tal (gst L F R 0).gs i).fre) m = sumTo (fun _ => 0) m := sumTo_congr m (fun i _ => rfl)
    rw [this]
    clear this hm
    induction m with
    | zero => rfl
    | succ m ih => simp only [sumTo, ih]; rfl
  | succ k ih =>
    have hmono := len_gs_mono L F R k 1
    have ih := ih (by omega)
    cases h : R k
    · have hq : idx (gst L F R k).gs (L k) < (gst L F R (k + 1)).gs.length := (node_of L F R (k + 1) k (by omega) h).1
      cases hf : F k
      · have e : cntTo F R (k + 1) = cntTo F R k := by simp [cntTo, sumTo, h, hf]
        rw [e, ← ih]
        refine sumTo_congr m (fun i _ => ?_)
        rw [tal_succ L F R k i h, hf]
        split <;> simp
      · have e : cntTo F R (k + 1) = cntTo F R k + 1 := by simp [cntTo, sumTo, h, hf]
        rw [e, ← ih]
        refine sumTo_bump (idx (gst L F R k).gs (L k)) m (by omega) (fun i => ?_)
        rw [tal_succ L F R k i h, hf]
        split <;> simp
    · have e : cntTo F R (k + 1) = cntTo F R k := by simp [cntTo, sumTo, h]
      rw [e, ← ih, gst_succ_res L F R k h]
end

end Go.Proofs.Qxb6600123a
