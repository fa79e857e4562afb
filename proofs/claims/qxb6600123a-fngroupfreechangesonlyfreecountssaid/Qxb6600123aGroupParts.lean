/-
  Seat b6600123a: the memory of (*pool).group: the pool's own seven cells, the tallies' row, the map; what each store does to them.
-/
import Derived.Test.Qxb6600123aBase
import Derived.Test.Qxb6600123aGroupPlain
import Derived.Maps.OwnSet
import Derived.Maps.AppendAt
import Derived.Deep.AppendLies
namespace Go.Proofs.Qxb6600123a
open Go.RowKit Go.Deep Go.Maps

/-- A unit is reserved: as reservedAt and isReserved tell. -/
def resAt (rn : Nat) (R : Nat → Bool) (u : Nat) : Bool := decide (u < rn) && R u

/-- The pool's seven cells. -/
def pf (vL vF vR vG vO : Value) : Nat → Value
  | 0 => .string ByteArray.empty
  | 1 => vL
  | 2 => vF
  | 3 => vR
  | 4 => .slice none 0 0
  | 5 => vG
  | 6 => vO
  | _ => undef

theorem pf_set5 (vL vF vR vG vO v : Value) (j : Nat) : (if j = 5 then v else pf vL vF vR vG vO j) = pf vL vF vR v vO j := by
  match j with
  | 0 | 1 | 2 | 3 | 4 | 5 | 6 => simp [pf]
  | n + 7 => simp [pf]
theorem pf_set6 (vL vF vR vG vO v : Value) (j : Nat) : (if j = 6 then v else pf vL vF vR vG vO j) = pf vL vF vR vG v j := by
  match j with
  | 0 | 1 | 2 | 3 | 4 | 5 | 6 => simp [pf]
  | n + 7 => simp [pf]

def Tal.cells (t : Tal) : List Value := [.int .u64 t.node, .int .i64 t.inst, .int .i64 t.fre]
def flat (gs : List Tal) : List Value := gs.flatMap Tal.cells

theorem len_flat (gs : List Tal) : (flat gs).length = gs.length * 3 := by
  induction gs with
  | nil => rfl
  | cons t r ih => simp [flat, Tal.cells] at ih ⊢; omega

theorem flat_snoc (gs : List Tal) (t : Tal) : flat (gs ++ [t]) = flat gs ++ [.int .u64 t.node, .int .i64 t.inst, .int .i64 t.fre] := by simp [flat, Tal.cells]

theorem flat_at (gs : List Tal) (i : Nat) (h : i < gs.length) : (flat gs)[i * 3]? = some (.int .u64 (tal gs i).node) ∧ (flat gs)[i * 3 + 1]? = some (.int .i64 (tal gs i).inst) ∧ (flat gs)[i * 3 + 2]? = some (.int .i64 (tal gs i).fre) := by
  induction gs generalizing i with
  | nil => simp at h
  | cons t r ih =>
    cases i with
    | zero => simp [flat, Tal.cells, tal]
    | succ i =>
      have h' : i < r.length := by simpa using h
      have e : flat (t :: r) = [.int .u64 t.node, .int .i64 t.inst, .int .i64 t.fre] ++ flat r := by simp [flat, Tal.cells]
      have e2 : tal (t :: r) (i + 1) = tal r i := by simp [tal]
      have := ih i h'
      rw [e, e2]
      refine ⟨?_, ?_, ?_⟩
      · rw [List.getElem?_append_right (by simp; omega)]; simpa [show (i + 1) * 3 - 3 = i * 3 by omega] using this.1
      · rw [List.getElem?_append_right (by simp; omega)]; simpa [show (i + 1) * 3 + 1 - 3 = i * 3 + 1 by omega] using this.2.1
      · rw [List.getElem?_append_right (by simp; omega)]; simpa [show (i + 1) * 3 + 2 - 3 = i * 3 + 2 by omega] using this.2.2

theorem flat_setI (gs : List Tal) (i : Nat) (h : i < gs.length) : (flat gs).set (i * 3 + 1) (.int .i64 ((tal gs i).inst + 1)) = flat (bumpI gs i) := by
  induction gs generalizing i with
  | nil => simp at h
  | cons t r ih =>
    cases i with
    | zero => simp [flat, Tal.cells, tal, bumpI]
    | succ i =>
      have h' : i < r.length := by simpa using h
      have e2 : tal (t :: r) (i + 1) = tal r i := by simp [tal]
      have e3 : bumpI (t :: r) (i + 1) = t :: bumpI r i := by simp [bumpI]
      have e : ∀ t r, flat (t :: r) = .int .u64 t.node :: .int .i64 t.inst :: .int .i64 t.fre :: flat r := by intro t r; simp [flat, Tal.cells]
      rw [e2, e3, e, e, ← ih i h', show (i + 1) * 3 + 1 = i * 3 + 1 + 1 + 1 + 1 by omega]
      simp

theorem flat_setF (gs : List Tal) (i : Nat) (h : i < gs.length) : (flat gs).set (i * 3 + 2) (.int .i64 ((tal gs i).fre + 1)) = flat (bumpF gs i true) := by
  induction gs generalizing i with
  | nil => simp at h
  | cons t r ih =>
    cases i with
    | zero => simp [flat, Tal.cells, tal, bumpF]
    | succ i =>
      have h' : i < r.length := by simpa using h
      have e2 : tal (t :: r) (i + 1) = tal r i := by simp [tal]
      have e3 : bumpF (t :: r) (i + 1) true = t :: bumpF r i true := by simp [bumpF]
      have e : ∀ t r, flat (t :: r) = .int .u64 t.node :: .int .i64 t.inst :: .int .i64 t.fre :: flat r := by intro t r; simp [flat, Tal.cells]
      rw [e2, e3, e, e, ← ih i h', show (i + 1) * 3 + 2 = i * 3 + 2 + 1 + 1 + 1 by omega]
      simp

theorem bumpF_false (gs : List Tal) (i : Nat) : bumpF gs i false = gs := by
  unfold bumpF
  have : (fun t : Tal => { t with fre := if false = true then t.fre + 1 else t.fre }) = id := by funext t; simp
  rw [this]
  exact List.modify_id _ _

/-- The map tells each node set's place. -/
def MapOk (D : DataW Unit) (gs : List Tal) : Prop :=
  ∀ x, Maps.has D (.int .u64 x) = decide (idx gs x < gs.length) ∧ D.atKey (.int .u64 x) (.lit (.int .i64 0)) = .lit (.int .i64 (if idx gs x < gs.length then (idx gs x : Int) else 0))

theorem mapOk_start : MapOk (.map []) [] := fun x => by simp [Maps.has_eq, DataW.atKey]

theorem idx_snoc_old (gs : List Tal) (x y : Int) (h : y ≠ x) : idx (gs ++ [⟨y, 0, 0⟩]) x = if idx gs x < gs.length then idx gs x else gs.length + 1 := by
  unfold idx
  rw [List.findIdx_append]
  split
  · rfl
  · have : (y == x) = false := by simpa using h
    simp [List.findIdx_cons, this]; omega

theorem idx_snoc_new (gs : List Tal) (x : Int) (h : ¬ idx gs x < gs.length) : idx (gs ++ [⟨x, 0, 0⟩]) x = gs.length := by
  unfold idx at h ⊢
  rw [List.findIdx_append, if_neg h]
  simp [List.findIdx_cons]

theorem mapOk_put {D : DataW Unit} {gs : List Tal} (hD : IsMap D) (h : MapOk D gs) (x : Int) (hx : ¬ idx gs x < gs.length) : MapOk (D.put (.int .u64 x) (.lit (.int .i64 (gs.length : Int)))) (gs ++ [⟨x, 0, 0⟩]) := by
  intro y
  have hle := idx_le gs x
  by_cases e : y = x
  · subst e
    rw [Maps.has_put_same hD (by trivial), Maps.atKey_put_same hD (by trivial), idx_snoc_new gs y hx]
    simp
  · have hne : Lit.int .u64 y ≠ Lit.int .u64 x := by simpa using e
    rw [Maps.has_put_other hne, Maps.atKey_put_other hne, (h y).1, (h y).2, idx_snoc_old gs y x (fun h => e h.symm)]
    have := idx_le gs y
    by_cases hy : idx gs y < gs.length
    · simp [hy, show idx gs y < gs.length + 1 by omega]
    · simp [hy]

theorem idx_congr {gs gs' : List Tal} (h : gs'.map Tal.node = gs.map Tal.node) (x : Int) : idx gs' x = idx gs x := by
  have e : ∀ l : List Tal, idx l x = (l.map Tal.node).findIdx (· == x) := fun l => by simp [idx, List.findIdx_map]; rfl
  rw [e, e, h]

theorem mapOk_congr {D : DataW Unit} {gs gs' : List Tal} (h : MapOk D gs) (e : gs'.map Tal.node = gs.map Tal.node) : MapOk D gs' := by
  intro x
  have hl : gs'.length = gs.length := by have := congrArg List.length e; simpa using this
  rw [idx_congr e, hl]
  exact h x

theorem nodes_bumpI (gs : List Tal) (i : Nat) : (bumpI gs i).map Tal.node = gs.map Tal.node := by
  apply List.ext_getElem?
  intro j
  simp only [bumpI, List.getElem?_map, List.getElem?_modify]
  cases gs[j]? <;> simp
  split <;> rfl
theorem nodes_bumpF (gs : List Tal) (i : Nat) (f : Bool) : (bumpF gs i f).map Tal.node = gs.map Tal.node := by
  apply List.ext_getElem?
  intro j
  simp only [bumpF, List.getElem?_map, List.getElem?_modify]
  cases gs[j]? <;> simp
  split <;> rfl

/-- THE MEMORY OF group: P the pool's block, B the heap's size when group began: B: groupOf's row, B + 1: the map, from B + 2 on: the tallies. -/
structure GI (w : World) (P B n : Nat) (vL vF vR : Value) (m : Nat) (wr : World) (vG : Value) (D : DataW Unit) (gs : List Tal) (ofs : List Int) : Prop where
  pool : wr.rowIs P 62 7 (pf vL vF vR vG (.slice (some ⟨B, 0, none⟩) n n))
  grp : wr.ownsRow (B + 2) 64 3 vG gs.length (flat gs)
  ofr : wr.rowIs B 3 n (fun i => .int .i64 (ofs.getD i 0))
  map : wr.ownsMap Try.prog 58 (plainElem Try.prog 3) (B + 1) m D
  ok : MapOk D gs
  below : Below P w wr
  size : B + 2 ≤ wr.heap.size
  lt : P < B

section
variable {w wr : World} {P B n m : Nat} {vL vF vR vG : Value} {D : DataW Unit} {gs : List Tal} {ofs : List Int}

theorem GI.setOf (h : GI w P B n vL vF vR m wr vG D gs ofs) (z : Int) : GI w P B n vL vF vR m (wr.setCell ⟨B, ofs.length, none⟩ (.int .i64 z)) vG D gs (ofs ++ [z]) where
  pool := h.pool.setOther (by have := h.lt; simp; omega) _
  grp := ownsRow_setCell_below h.grp (by simp) _
  ofr := (h.ofr.set ofs.length (.int .i64 z)).congr (fun j _ => by
    by_cases e : j = ofs.length
    · subst e; simp
    · by_cases e2 : j < ofs.length
      · simp [e, List.getD_eq_getElem?_getD, List.getElem?_append, e2]
      · simp only [e, if_false]
        have h1 : ofs[j]? = none := List.getElem?_eq_none (by omega)
        have h2 : (ofs ++ [z])[j]? = none := List.getElem?_eq_none (by simp; omega)
        simp [List.getD_eq_getElem?_getD, h1, h2])
  map := h.map.setCell (by simp) _
  ok := h.ok
  below := h.below.setCell (by have := h.lt; simp; omega) _
  size := by simpa [World.setCell] using h.size
  lt := h.lt

theorem GI.bumpI {g cap : Nat} (h : GI w P B n vL vF vR m wr (.slice (some ⟨g, 0, none⟩) gs.length cap) D gs ofs) (i : Nat) (hi : i < gs.length) (hg : B + 2 ≤ g) :
    GI w P B n vL vF vR m (wr.setCell ⟨g, i * 3 + 1, none⟩ (.int .i64 ((tal gs i).inst + 1))) (.slice (some ⟨g, 0, none⟩) (bumpI gs i).length cap) D (bumpI gs i) ofs where
  pool := by rw [len_bumpI]; exact h.pool.setOther (by have := h.lt; simp; omega) _
  grp := by rw [← flat_setI gs i hi, len_bumpI]; exact (h.grp.stored (i * 3 + 1) _).1
  ofr := h.ofr.setOther (by simp; omega) _
  map := h.map.setCell (by simp; omega) _
  ok := mapOk_congr h.ok (nodes_bumpI gs i)
  below := h.below.setCell (by have := h.lt; simp; omega) _
  size := by simpa [World.setCell] using h.size
  lt := h.lt

theorem GI.bumpF {g cap : Nat} (h : GI w P B n vL vF vR m wr (.slice (some ⟨g, 0, none⟩) gs.length cap) D gs ofs) (i : Nat) (hi : i < gs.length) (hg : B + 2 ≤ g) :
    GI w P B n vL vF vR m (wr.setCell ⟨g, i * 3 + 2, none⟩ (.int .i64 ((tal gs i).fre + 1))) (.slice (some ⟨g, 0, none⟩) (bumpF gs i true).length cap) D (bumpF gs i true) ofs where
  pool := by rw [len_bumpF]; exact h.pool.setOther (by have := h.lt; simp; omega) _
  grp := by rw [← flat_setF gs i hi, len_bumpF]; exact (h.grp.stored (i * 3 + 2) _).1
  ofr := h.ofr.setOther (by simp; omega) _
  map := h.map.setCell (by simp; omega) _
  ok := mapOk_congr h.ok (nodes_bumpF gs i true)
  below := h.below.setCell (by have := h.lt; simp; omega) _
  size := by simpa [World.setCell] using h.size
  lt := h.lt

/-- A new tally: the map's store, the element laid in a block of its own, the append, the field's store. -/
theorem GI.added (h : GI w P B n vL vF vR m wr vG D gs ofs) (x : Int) (hx : ¬ idx gs x < gs.length) {w1 w2 : World} {o : Obj} {g cap : Nat}
    (hmap : w1.ownsMap Try.prog 58 (plainElem Try.prog 3) (B + 1) (m + 1) (D.put (.int .u64 x) (.lit (.int .i64 (gs.length : Int))))) (hg1 : wr.grownBy w1 (some (B + 1)))
    (hown : w2.ownsRow (B + 2) 64 3 (.slice (some ⟨g, 0, none⟩) (gs.length + 1) cap) (gs.length + 1) (flat gs ++ [Value.int .u64 x, .int .i64 0, .int .i64 0])) (hg2 : (w1.alloc o).grownBy w2 vG.ownBlock) :
    GI w P B n vL vF vR (m + 1) (w2.setCell ⟨P, 5, none⟩ (.slice (some ⟨g, 0, none⟩) (gs.length + 1) cap)) (.slice (some ⟨g, 0, none⟩) (gs.length + 1) cap) (D.put (.int .u64 x) (.lit (.int .i64 (gs.length : Int)))) (gs ++ [⟨x, 0, 0⟩]) ofs := by
  have hl := h.lt
  have hs := h.size
  have s1 := hg1.size
  have hvb : ∀ k, vG.ownBlock = some k → B + 2 ≤ k := fun k hk => (h.grp.lt k hk).1
  have ne : ∀ k, k < B + 2 → some k ≠ vG.ownBlock := fun k hk e => by have := hvb k e.symm; omega
  have row2 : ∀ {k t q : Nat} {f : Nat → Value}, wr.rowIs k t q f → k < B + 2 → k ≠ B + 1 → w2.rowIs k t q f := fun hr hk hne =>
    row_grown ((row_grown hr hg1 (by simp; omega)).alloc o) hg2 (ne _ hk)
  have s2 := hg2.size
  simp at s2
  exact {
    pool := by
      have := (row2 h.pool (by omega) (by omega)).set 5 (.slice (some ⟨g, 0, none⟩) (gs.length + 1) cap)
      simpa using this.congr (fun j _ => pf_set5 _ _ _ _ _ _ j)
    grp := by rw [flat_snoc]; simpa using ownsRow_setCell_below hown (a := ⟨P, 5, none⟩) (by simp; omega) _
    ofr := (row2 h.ofr (by omega) (by omega)).setOther (by simp; omega) _
    map := ((hmap.alloc o).kept hg2 (ne _ (by omega))).setCell (by simp; omega) _
    ok := mapOk_put h.map.isMap h.ok x hx
    below := (((h.below.grown hg1 (by omega) (fun k e => by cases e; omega)).alloc (by omega) o).grown hg2 (by simp; omega) (fun k e => by have := hvb k e; omega)).setCell (Nat.le_refl _) _
    size := by simp [World.setCell]; omega
    lt := h.lt }
end

end Go.Proofs.Qxb6600123a
