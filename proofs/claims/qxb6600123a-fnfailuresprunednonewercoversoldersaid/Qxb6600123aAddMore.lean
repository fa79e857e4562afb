/-
  Seat b6600123a: the pruning loop of (*failures).add: what a round does to the store's arrays.
-/
import Derived.Test.Qxb6600123aAddBase
namespace Go.Proofs.Qxb6600123a
open Go.RowKit Go.Deep
set_option linter.unusedVariables false

theorem wrap_mul {a b n : Nat} (h : a * b = n) (hn : n ≤ 1099511627776) : IntKind.i64.wrap ((a : Int) * (b : Int)) = (n : Int) := by
  rw [← Int.natCast_mul, h, IntKind.wrap_i64]
  omega

/-- The j-th state's needs, as a slice of the store's array. -/
theorem sub_in {w : World} {ao : Option Addr} {mk cap jk k : Nat} {xs : List Value} {f : Nat → Value} (own : w.ownsRow 0 3 1 (.slice ao mk cap) mk xs) (hk : jk + k ≤ mk) (hx : ∀ i, i < k → xs[jk + i]? = some (f i)) :
    In w.heap.size w (if cap = jk then ao else Option.map (fun x => x.add jk) ao) k (cap - jk) f := by
  have hn := own_nil own
  refine ⟨by omega, fun h => ?_, fun i hi => ?_⟩
  · have : ao = none := by
      split at h
      · exact h
      · simpa using h
    have := hn.2.2 this
    omega
  · obtain ⟨g, rfl, hlt, hcell⟩ := own_addr own (by omega)
    refine ⟨g, jk, ?_, hlt, ?_⟩
    · rw [if_neg (by omega)]
      simp [Addr.add_lit]
    · rw [hcell (jk + i) (by omega)]
      exact hx i hi

/-- The arrays at the loop's head: j states have been looked at. -/
structure PrL (S : Nat → Prop) (w wr : World) (P : Nat) (most : Int) (prune : Bool) (vK vN vM : Value) (k j : Nat) (st L : List Sta) (xk xn xm : List Value) : Prop where
  fa : FA S wr P most prune vK vN vM xk xn xm
  fr : Fr S w wr
  lk : xk.length = st.length
  ln : xn.length = st.length * k
  lm : xm.length = st.length
  tk : xk.take L.length = keysV L
  tn : xn.take (L.length * k) = needV L
  tm : xm.take L.length = limsV L
  dk : xk.drop j = keysV (st.drop j)
  dn : xn.drop (j * k) = needV (st.drop j)
  dm : xm.drop j = limsV (st.drop j)

section
variable {S : Nat → Prop} {w wr : World} {P : Nat} {most : Int} {prune : Bool} {vK vN vM : Value} {k j : Nat} {st L : List Sta} {xk xn xm : List Value}

theorem PrL.done (h : PrL S w wr P most prune vK vN vM k st.length st L xk xn xm) : Pruned S w wr P most prune vK vN vM k st.length L xk xn xm :=
  ⟨h.fa, h.fr, h.lk, h.ln, h.lm, h.tk, h.tn, h.tm⟩

/-- The state at j is dropped. -/
theorem PrL.skip (h : PrL S w wr P most prune vK vN vM k j st L xk xn xm) (hw : Wid k st) (hj : j < st.length) {w' : World} (hh : w'.heap = wr.heap) (hf : Fr S w w') : PrL S w w' P most prune vK vN vM k (j + 1) st L xk xn xm where
  fa := h.fa.heap hh
  fr := hf
  lk := h.lk
  ln := h.ln
  lm := h.lm
  tk := h.tk
  tn := h.tn
  tm := h.tm
  dk := by rw [← List.drop_drop, h.dk, List.drop_eq_getElem_cons hj]; simp [keysV]
  dn := by
    rw [Nat.add_mul, Nat.one_mul, ← List.drop_drop, h.dn, List.drop_eq_getElem_cons hj]
    have hl : (st[j].need.map (Value.int .i64)).length = k := by rw [List.length_map]; exact hw _ (List.getElem_mem hj)
    simp only [needV, List.flatMap_cons]
    rw [← hl, List.drop_left]
  dm := by rw [← List.drop_drop, h.dm, List.drop_eq_getElem_cons hj]; simp [limsV]

/-- The state at j is kept: its key, its needs and its limit go to the place behind the kept ones. -/
theorem PrL.keep (h : PrL S w wr P most prune vK vN vM k j st L xk xn xm) (hw : Wid k st) (hwL : Wid k L) (hj : j < st.length) (hL : L.length ≤ j) {w' : World}
    (hfa : FA S w' P most prune vK vN vM (splice xk L.length [.string st[j].key]) (splice xn (L.length * k) (st[j].need.map (Value.int .i64))) (splice xm L.length [.int .u64 st[j].lim])) (hf : Fr S w w') :
    PrL S w w' P most prune vK vN vM k (j + 1) st (L ++ [st[j]]) (splice xk L.length [.string st[j].key]) (splice xn (L.length * k) (st[j].need.map (Value.int .i64))) (splice xm L.length [.int .u64 st[j].lim]) := by
  have hln : st[j].need.length = k := hw _ (List.getElem_mem hj)
  have e1 : keysV (st.drop j) = [.string st[j].key] ++ keysV (st.drop (j + 1)) := by rw [List.drop_eq_getElem_cons hj]; rfl
  have e2 : needV (st.drop j) = st[j].need.map (Value.int .i64) ++ needV (st.drop (j + 1)) := by rw [List.drop_eq_getElem_cons hj]; simp only [needV, List.flatMap_cons]
  have e3 : limsV (st.drop j) = [.int .u64 st[j].lim] ++ limsV (st.drop (j + 1)) := by rw [List.drop_eq_getElem_cons hj]; rfl
  have hjk : j * k + k ≤ st.length * k := by
    have := Nat.mul_le_mul_right k (show j + 1 ≤ st.length from hj)
    rw [Nat.add_mul, Nat.one_mul] at this
    exact this
  obtain ⟨a1, a2, a3⟩ := splice_step h.tk (len_keysV L) (h.dk.trans e1) rfl hL (by simp; rw [h.lk]; omega)
  obtain ⟨b1, b2, b3⟩ := splice_step (q := k) h.tn (len_needV hwL) (h.dn.trans e2) (by rw [List.length_map]; exact hln) (Nat.mul_le_mul_right k hL) (by rw [h.ln]; exact hjk)
  obtain ⟨c1, c2, c3⟩ := splice_step h.tm (len_limsV L) (h.dm.trans e3) rfl hL (by simp; rw [h.lm]; omega)
  exact {
    fa := hfa
    fr := hf
    lk := a3.trans h.lk
    ln := b3.trans h.ln
    lm := c3.trans h.lm
    tk := by rw [keysV_app, List.length_append]; exact a1.trans (by simp [keysV])
    tn := by rw [needV_app, List.length_append, Nat.add_mul]; simp only [List.length_singleton, Nat.one_mul]; exact b1.trans (by simp [needV])
    tm := by rw [limsV_app, List.length_append]; exact c1.trans (by simp [limsV])
    dk := a2
    dn := by rw [Nat.add_mul, Nat.one_mul]; exact b2
    dm := c2 }
end

theorem keptS_snoc (prune : Bool) (t k : Nat) (nw : Sta) (l : List Sta) (s : Sta) : keptS prune t k nw (l ++ [s]) = if prune && cov t k nw s then keptS prune t k nw l else keptS prune t k nw l ++ [s] := by
  unfold keptS
  rw [List.filter_append]
  cases h : (prune && cov t k nw s)
  · rw [List.filter_cons_of_pos (by rw [h]; rfl)]
    rfl
  · rw [List.filter_cons_of_neg (by rw [h]; decide)]
    simp

end Go.Proofs.Qxb6600123a
