/-
  Seat b6600123a: what (*pool).group computes, as a plain function. Nothing of the dump.
-/
namespace Go.Proofs.Qxb6600123a

/-- A tally: its node set, how many units it has, how many of them are free. -/
structure Tal where
  node : Int
  inst : Int
  fre : Int

def Tal.nul : Tal := ⟨0, 0, 0⟩
/-- The i-th tally (a blank one beyond the end). -/
def tal (gs : List Tal) (i : Nat) : Tal := gs.getD i Tal.nul
/-- Where the tally of x stands; the length where there is none. -/
def idx (gs : List Tal) (x : Int) : Nat := gs.findIdx (fun t => t.node == x)
def bumpI (gs : List Tal) (i : Nat) : List Tal := gs.modify i (fun t => { t with inst := t.inst + 1 })
def bumpF (gs : List Tal) (i : Nat) (f : Bool) : List Tal := gs.modify i (fun t => { t with fre := if f then t.fre + 1 else t.fre })
def addN (gs : List Tal) (x : Int) : List Tal := if idx gs x < gs.length then gs else gs ++ [⟨x, 0, 0⟩]

structure GSt where
  gs : List Tal
  ofs : List Int

def gstep (s : GSt) (x : Int) (f r : Bool) : GSt :=
  if r then ⟨s.gs, s.ofs ++ [-1]⟩ else ⟨bumpF (bumpI (addN s.gs x) (idx s.gs x)) (idx s.gs x) f, s.ofs ++ [(idx s.gs x : Int)]⟩

/-- After the first k units. -/
def gst (L : Nat → Int) (F R : Nat → Bool) : Nat → GSt
  | 0 => ⟨[], []⟩
  | k + 1 => gstep (gst L F R k) (L k) (F k) (R k)

theorem tal_lt {gs : List Tal} {i : Nat} (h : i < gs.length) : tal gs i = gs[i] := by
  simp [tal, List.getD, h]

theorem tal_ge {gs : List Tal} {i : Nat} (h : gs.length ≤ i) : tal gs i = Tal.nul := by
  simp [tal, List.getD, List.getElem?_eq_none h]

theorem len_bumpI (gs : List Tal) (i : Nat) : (bumpI gs i).length = gs.length := by simp [bumpI]
theorem len_bumpF (gs : List Tal) (i : Nat) (f : Bool) : (bumpF gs i f).length = gs.length := by simp [bumpF]

theorem tal_bumpI (gs : List Tal) (i j : Nat) (hi : i < gs.length) : tal (bumpI gs i) j = if j = i then { tal gs j with inst := (tal gs j).inst + 1 } else tal gs j := by
  unfold tal bumpI
  simp only [List.getD_eq_getElem?_getD, List.getElem?_modify]
  by_cases e : i = j
  · subst e
    simp [hi]
  · simp [e, Ne.symm e]

theorem tal_bumpF (gs : List Tal) (i j : Nat) (f : Bool) (hi : i < gs.length) : tal (bumpF gs i f) j = if j = i then { tal gs j with fre := if f then (tal gs j).fre + 1 else (tal gs j).fre } else tal gs j := by
  unfold tal bumpF
  simp only [List.getD_eq_getElem?_getD, List.getElem?_modify]
  by_cases e : i = j
  · subst e
    simp [hi]
  · simp [e, Ne.symm e]

theorem idx_le (gs : List Tal) (x : Int) : idx gs x ≤ gs.length := by unfold idx; exact List.findIdx_le_length

theorem node_idx {gs : List Tal} {x : Int} (h : idx gs x < gs.length) : (tal gs (idx gs x)).node = x := by
  rw [tal_lt h]
  have := List.findIdx_getElem (p := fun t : Tal => t.node == x) (xs := gs) (w := h)
  exact eq_of_beq this

/-- Two tallies of one list never bear the same node set. -/
def Apart (gs : List Tal) : Prop := ∀ i j, i < gs.length → j < gs.length → (tal gs i).node = (tal gs j).node → i = j

theorem idx_of_node {gs : List Tal} (ha : Apart gs) {i : Nat} {x : Int} (hi : i < gs.length) (h : (tal gs i).node = x) : idx gs x = i := by
  have hlt : idx gs x < gs.length := by
    unfold idx
    apply List.findIdx_lt_length_of_exists
    refine ⟨gs[i], List.getElem_mem hi, ?_⟩
    rw [← tal_lt hi]; simpa using h
  exact ha _ _ hlt hi ((node_idx hlt).trans h.symm)

theorem no_idx {gs : List Tal} {x : Int} (h : gs.length ≤ idx gs x) {i : Nat} (hi : i < gs.length) : (tal gs i).node ≠ x := by
  intro e
  have : idx gs x ≤ i := by
    unfold idx
    apply Nat.le_of_not_lt
    intro hlt
    have := List.not_of_lt_findIdx hlt
    rw [tal_lt hi] at e
    simp [e] at this
  omega

theorem len_addN (gs : List Tal) (x : Int) : (addN gs x).length = if idx gs x < gs.length then gs.length else gs.length + 1 := by
  unfold addN; split <;> simp

theorem idx_lt_addN (gs : List Tal) (x : Int) : idx gs x < (addN gs x).length := by
  have := idx_le gs x
  rw [len_addN]; split <;> omega

theorem tal_addN (gs : List Tal) (x : Int) (i : Nat) (hi : i < gs.length) : tal (addN gs x) i = tal gs i := by
  unfold addN
  split
  · rfl
  · simp [tal, List.getD_eq_getElem?_getD, List.getElem?_append, hi]

theorem tal_addN_new (gs : List Tal) (x : Int) (h : ¬ idx gs x < gs.length) : tal (addN gs x) gs.length = ⟨x, 0, 0⟩ := by
  unfold addN
  rw [if_neg h]
  simp [tal, List.getD_eq_getElem?_getD]

theorem node_addN (gs : List Tal) (x : Int) : (tal (addN gs x) (idx gs x)).node = x := by
  by_cases h : idx gs x < gs.length
  · rw [tal_addN _ _ _ h]; exact node_idx h
  · have := idx_le gs x
    have e : idx gs x = gs.length := by omega
    rw [e, tal_addN_new _ _ h]

section
variable (L : Nat → Int) (F R : Nat → Bool)

/-- The whole state after a unit, tally by tally. -/
theorem gst_succ_res (k : Nat) (h : R k = true) : gst L F R (k + 1) = ⟨(gst L F R k).gs, (gst L F R k).ofs ++ [-1]⟩ := by
  simp [gst, gstep, h]

theorem gst_succ (k : Nat) (h : R k = false) : gst L F R (k + 1) = ⟨bumpF (bumpI (addN (gst L F R k).gs (L k)) (idx (gst L F R k).gs (L k))) (idx (gst L F R k).gs (L k)) (F k), (gst L F R k).ofs ++ [(idx (gst L F R k).gs (L k) : Int)]⟩ := by
  simp [gst, gstep, h]

theorem len_ofs (k : Nat) : (gst L F R k).ofs.length = k := by
  induction k with
  | zero => rfl
  | succ k ih => cases h : R k <;> simp [gst, gstep, h, ih]

theorem len_gs_succ (k : Nat) (h : R k = false) : (gst L F R (k + 1)).gs.length = if idx (gst L F R k).gs (L k) < (gst L F R k).gs.length then (gst L F R k).gs.length else (gst L F R k).gs.length + 1 := by
  rw [gst_succ L F R k h]; simp [len_bumpF, len_bumpI, len_addN]

theorem len_gs_le (k : Nat) : (gst L F R k).gs.length ≤ k := by
  induction k with
  | zero => simp [gst]
  | succ k ih =>
    cases h : R k
    · rw [len_gs_succ L F R k h]; split <;> omega
    · rw [gst_succ_res L F R k h]; simp; omega

theorem tal_succ (k i : Nat) (h : R k = false) : tal (gst L F R (k + 1)).gs i =
    if i = idx (gst L F R k).gs (L k) then ⟨L k, (tal (gst L F R k).gs i).inst + 1, if F k then (tal (gst L F R k).gs i).fre + 1 else (tal (gst L F R k).gs i).fre⟩ else tal (gst L F R k).gs i := by
  rw [gst_succ L F R k h]
  have hl := idx_lt_addN (gst L F R k).gs (L k)
  have hle := idx_le (gst L F R k).gs (L k)
  simp only
  rw [tal_bumpF _ _ _ _ (by rw [len_bumpI]; exact hl), tal_bumpI _ _ _ hl]
  by_cases e : i = idx (gst L F R k).gs (L k)
  · subst e
    simp only [if_true, Tal.mk.injEq]
    refine ⟨node_addN _ _, ?_, ?_⟩
    all_goals
      by_cases hx : idx (gst L F R k).gs (L k) < (gst L F R k).gs.length
      · rw [tal_addN _ _ _ hx]
      · have e2 : idx (gst L F R k).gs (L k) = (gst L F R k).gs.length := by omega
        rw [e2, tal_addN_new _ _ hx, tal_ge (Nat.le_refl _)]
        simp [Tal.nul]
  · simp only [e, if_false]
    by_cases hx : i < (gst L F R k).gs.length
    · rw [tal_addN _ _ _ hx]
    · by_cases hy : idx (gst L F R k).gs (L k) < (gst L F R k).gs.length
      · unfold addN; rw [if_pos hy]
      · have h1 : (addN (gst L F R k).gs (L k)).length ≤ i := by rw [len_addN, if_neg hy]; omega
        have h2 : (gst L F R k).gs.length ≤ i := by omega
        rw [tal_ge h1, tal_ge h2]

theorem node_succ (k i : Nat) (h : R k = false) : (tal (gst L F R (k + 1)).gs i).node = if i = idx (gst L F R k).gs (L k) then L k else (tal (gst L F R k).gs i).node := by
  rw [tal_succ L F R k i h]; split <;> rfl

theorem apart_gst (k : Nat) : Apart (gst L F R k).gs := by
  induction k with
  | zero => intro i j hi; simp [gst] at hi
  | succ k ih =>
    cases h : R k
    · intro i j hi hj he
      rw [len_gs_succ L F R k h] at hi hj
      have hle := idx_le (gst L F R k).gs (L k)
      rw [node_succ L F R k i h, node_succ L F R k j h] at he
      by_cases hx : idx (gst L F R k).gs (L k) < (gst L F R k).gs.length
      · rw [if_pos hx] at hi hj
        by_cases h1 : i = idx (gst L F R k).gs (L k)
        · by_cases h2 : j = idx (gst L F R k).gs (L k)
          · omega
          · rw [if_pos h1, if_neg h2] at he
            rw [h1]; exact (idx_of_node ih hj he.symm)
        · by_cases h2 : j = idx (gst L F R k).gs (L k)
          · rw [if_neg h1, if_pos h2] at he
            rw [h2]; exact (idx_of_node ih hi he).symm
          · rw [if_neg h1, if_neg h2] at he
            exact ih i j hi hj he
      · rw [if_neg hx] at hi hj
        by_cases h1 : i = idx (gst L F R k).gs (L k)
        · by_cases h2 : j = idx (gst L F R k).gs (L k)
          · omega
          · rw [if_pos h1, if_neg h2] at he
            exact absurd he.symm (no_idx (by omega) (by omega))
        · by_cases h2 : j = idx (gst L F R k).gs (L k)
          · rw [if_neg h1, if_pos h2] at he
            exact absurd he (no_idx (by omega) (by omega))
          · rw [if_neg h1, if_neg h2] at he
            exact ih i j (by omega) (by omega) he
    · rw [gst_succ_res L F R k h]; exact ih

/-- The counts of a tally: no more than the units seen. -/
theorem counts (k i : Nat) : 0 ≤ (tal (gst L F R k).gs i).fre ∧ (tal (gst L F R k).gs i).fre ≤ (tal (gst L F R k).gs i).inst ∧ (tal (gst L F R k).gs i).inst ≤ k := by
  induction k with
  | zero => simp [gst, tal, Tal.nul]
  | succ k ih =>
    cases h : R k
    · rw [tal_succ L F R k i h]
      split
      · simp only; split <;> omega
      · omega
    · rw [gst_succ_res L F R k h]; simp only; omega

/-- Where a unit was put stays where it was put. -/
theorem ofs_at (k u : Nat) (hu : u < k) : (gst L F R k).ofs.getD u 0 = if R u then -1 else (idx (gst L F R u).gs (L u) : Int) := by
  induction k with
  | zero => omega
  | succ k ih =>
    have hl := len_ofs L F R k
    by_cases e : u = k
    · subst e
      cases h : R u
      · rw [gst_succ L F R u h]; simp [List.getD_eq_getElem?_getD, hl]
      · rw [gst_succ_res L F R u h]; simp [List.getD_eq_getElem?_getD, hl]
    · rw [← ih (by omega)]
      have : u < (gst L F R k).ofs.length := by omega
      cases h : R k
      · rw [gst_succ L F R k h]; simp [List.getD_eq_getElem?_getD, List.getElem?_append, this]
      · rw [gst_succ_res L F R k h]; simp [List.getD_eq_getElem?_getD, List.getElem?_append, this]

theorem len_gs_mono (k d : Nat) : (gst L F R k).gs.length ≤ (gst L F R (k + d)).gs.length := by
  induction d with
  | zero => exact Nat.le_refl _
  | succ d ih =>
    refine Nat.le_trans ih ?_
    show _ ≤ (gst L F R (k + d + 1)).gs.length
    cases h : R (k + d)
    · rw [len_gs_succ L F R (k + d) h]; split <;> omega
    · rw [gst_succ_res L F R (k + d) h]; exact Nat.le_refl _

/-- A tally keeps its node set. -/
theorem node_keeps (k d i : Nat) (hi : i < (gst L F R k).gs.length) : (tal (gst L F R (k + d)).gs i).node = (tal (gst L F R k).gs i).node := by
  induction d with
  | zero => rfl
  | succ d ih =>
    rw [← ih]
    show (tal (gst L F R (k + d + 1)).gs i).node = _
    have hm := len_gs_mono L F R k d
    cases h : R (k + d)
    · rw [node_succ L F R (k + d) i h]
      by_cases e : i = idx (gst L F R (k + d)).gs (L (k + d))
      · rw [if_pos e]
        have hlt : idx (gst L F R (k + d)).gs (L (k + d)) < (gst L F R (k + d)).gs.length := by omega
        have := node_idx hlt
        rw [← e] at this
        exact this.symm
      · rw [if_neg e]
    · rw [gst_succ_res L F R (k + d) h]

/-- The tally that unit u was put into, at the end, bears u's node set. -/
theorem node_of (n u : Nat) (hu : u < n) (h : R u = false) : idx (gst L F R u).gs (L u) < (gst L F R n).gs.length ∧ (tal (gst L F R n).gs (idx (gst L F R u).gs (L u))).node = L u := by
  obtain ⟨d, rfl⟩ : ∃ d, n = u + 1 + d := ⟨n - (u + 1), by omega⟩
  have hl : idx (gst L F R u).gs (L u) < (gst L F R (u + 1)).gs.length := by
    have := idx_le (gst L F R u).gs (L u)
    rw [len_gs_succ L F R u h]; split <;> omega
  have hm := len_gs_mono L F R (u + 1) d
  refine ⟨by omega, ?_⟩
  rw [node_keeps L F R (u + 1) d _ hl, tal_succ L F R u _ h]
  simp
end

end Go.Proofs.Qxb6600123a
