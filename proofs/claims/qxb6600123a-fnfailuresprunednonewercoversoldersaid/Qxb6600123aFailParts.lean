/-
  Seat b6600123a: the memory of a store of failed states: laws on copy and append at a row that the call owns, inside a region that draws its order; the frame; the store's three arrays.
-/
import Derived.Test.Qxb6600123aFailPlain
import Derived.Deep.RegionHeld3
import Derived.Deep.AppendLies
namespace Go.Proofs.Qxb6600123a
open Go.RowKit Go.Deep
set_option linter.unusedVariables false

/-! ### Owned rows -/
theorem take_splice {α : Type} (L : List α) (off : Nat) (cs : List α) (m : Nat) (h1 : off + cs.length ≤ m) (h2 : m ≤ L.length) : (splice L off cs).take m = splice (L.take m) off cs := by
  unfold splice
  have hlo : (L.take off).length = off := by simp; omega
  have ha : (L.take off).take m = L.take off := List.take_of_length_le (by omega)
  have hc : cs.take (m - off) = cs := List.take_of_length_le (by omega)
  rw [List.take_append, List.take_append, hlo, ha, hc, List.take_take, Nat.min_eq_left (by omega), List.drop_take]
  congr 3
  omega

section
variable {w w' : World} {e : TypeId} {v : Value} {n : Nat} {xs : List Value}

theorem own_block {g : Nat} (h : w.ownsRow 0 e 1 v n xs) (hg : v.ownBlock = some g) : ∃ cur, w.heap[g]? = some (.cells cur e (0, 0)) := by
  rcases h.2 with ⟨rfl, _⟩ | ⟨g', cap, cur, rfl, _, hh, _⟩
  · simp [Value.ownBlock] at hg
  · simp [Value.ownBlock] at hg
    subst hg
    exact ⟨cur, hh⟩

/-- Rows of two element types lie in two blocks. -/
theorem own_ne {e2 : TypeId} {v2 : Value} {n2 : Nat} {x2 : List Value} (h : w.ownsRow 0 e 1 v n xs) (h2 : w.ownsRow 0 e2 1 v2 n2 x2) (he : e ≠ e2) : v.ownBlock = none ∨ v.ownBlock ≠ v2.ownBlock := by
  cases hv : v.ownBlock with
  | none => exact .inl rfl
  | some g =>
    refine .inr (fun hh => ?_)
    obtain ⟨c1, k1⟩ := own_block h hv
    obtain ⟨c2, k2⟩ := own_block h2 hh.symm
    rw [k1] at k2
    simp at k2
    exact he k2.2

theorem row_ne {P t m : Nat} {f : Nat → Value} (hr : w.rowIs P t m f) (h : w.ownsRow 0 e 1 v n xs) (he : e ≠ t) : some P ≠ v.ownBlock := by
  intro hh
  obtain ⟨c1, k1⟩ := own_block h hh.symm
  obtain ⟨c2, k2, _⟩ := hr
  rw [k1] at k2
  simp at k2
  exact he k2.2

/-- The first c of an owned slice. -/
theorem own_cut {ao : Option Addr} {m cap c : Nat} (h : w.ownsRow 0 e 1 (.slice ao m cap) m xs) (hc : c ≤ m) : w.ownsRow 0 e 1 (.slice ao c cap) c (xs.take c) := by
  have hl := h.1
  refine ⟨by simp; omega, ?_⟩
  rcases h.2 with ⟨hv, h0⟩ | ⟨g, cap', cur, hv, hb, hh, h1, h2, h3, h4⟩
  · left
    simp only [Value.slice.injEq] at hv
    obtain ⟨rfl, _, rfl⟩ := hv
    exact ⟨by rw [show c = 0 by omega], by omega⟩
  · right
    simp only [Value.slice.injEq, true_and] at hv
    obtain ⟨rfl, rfl⟩ := hv
    refine ⟨g, cap, cur, rfl, hb, hh, by omega, h2, h3, ?_⟩
    rw [← h4, List.take_take]
    congr 1
    omega

/-- Where an owned slice has an element it has an address; its cells. -/
theorem own_addr {ao : Option Addr} {m cap : Nat} (h : w.ownsRow 0 e 1 (.slice ao m cap) m xs) (hm : 0 < m) : ∃ g, ao = some ⟨g, 0, none⟩ ∧ g < w.heap.size ∧ ∀ i, i < m → w.cell? ⟨g, i, none⟩ = xs[i]? := by
  obtain ⟨g, cap', hv, _, hlt⟩ := h.form hm
  have hv' := hv
  simp only [Value.slice.injEq, true_and] at hv'
  obtain ⟨rfl, rfl⟩ := hv'
  exact ⟨g, rfl, hlt, fun i hi => h.cellAt i (by omega)⟩

theorem own_nil {ao : Option Addr} {m cap : Nat} (h : w.ownsRow 0 e 1 (.slice ao m cap) m xs) : m ≤ cap ∧ cap ≤ maxLen ∧ (ao = none → m = 0 ∧ cap = 0) := by
  rcases h.2 with ⟨hv, h0⟩ | ⟨g, cap', cur, hv, hb, hh, h1, h2, h3, h4⟩
  · simp only [Value.slice.injEq] at hv
    obtain ⟨rfl, _, rfl⟩ := hv
    exact ⟨by omega, by simp [maxLen], fun _ => ⟨h0, rfl⟩⟩
  · simp only [Value.slice.injEq, true_and] at hv
    obtain ⟨rfl, rfl⟩ := hv
    exact ⟨h1, h2, (fun h => nomatch h)⟩

/-- The row behind a copy into it. -/
theorem own_splice {g m cap : Nat} {cur : Array Value} {off : Nat} {cs : List Value} (hh : w.heap[g]? = some (.cells cur e (0, 0))) (h : w.ownsRow 0 e 1 (.slice (some ⟨g, 0, none⟩) m cap) m xs) (hfit : off + cs.length ≤ m) :
    (w.setRow g (cur.toList.take off ++ cs ++ cur.toList.drop (off + cs.length)).toArray).ownsRow 0 e 1 (.slice (some ⟨g, 0, none⟩) m cap) m (splice xs off cs) ∧
      w.grownBy (w.setRow g (cur.toList.take off ++ cs ++ cur.toList.drop (off + cs.length)).toArray) (some g) := by
  have hl := h.1
  rcases h.2 with ⟨hv, h0⟩ | ⟨g', cap', cur', hv, hb, hh', h1, h2, h3, h4⟩
  · simp at hv
  · simp only [Value.slice.injEq, Option.some.injEq, Addr.mk.injEq, and_true, true_and] at hv
    obtain ⟨rfl, rfl⟩ := hv
    rw [hh] at hh'
    simp only [Option.some.injEq, Obj.cells.injEq, and_true] at hh'
    subst hh'
    refine ⟨⟨by rw [length_splice _ _ _ (by omega)]; exact hl, .inr ⟨g, cap, _, rfl, hb, setRow_heap w g cur _ e _ hh, h1, h2, ?_, ?_⟩⟩, ⟨rfl, rfl, rfl, by simp, fun k _ hk => setRow_other w g k _ (fun e => hk (by simp [e]))⟩⟩
    · simp; omega
    · have e4 := take_splice cur.toList off cs m (by omega) (by simp; omega)
      rw [← h4]
      simp only [Nat.mul_one]
      rw [← e4]
      unfold splice
      simp
end

/-! ### copy and append, as steps of a region that draws its order -/
section
variable {P : Program} {w : World} {ops : Array Oper} {o : Oper} {a : Act} {K : Act → World → Prop} {Q : Exit → Act → World → Prop} {E : Prop}

theorem step_copy_rows (hgd : o.guard = none) (d s : Operand) (T : TypeId) (ho : o.op = .call { callee := .builtin .copy, args := #[d, s], argTypes := #[T, T] }) (e : TypeId) (hu : P.underlying T = some (.slice e)) (hsz : (P.info? e).map (·.size) = some 1)
    (dp sp : Option Addr) (dLen dCap sLen sCap : Nat) (hd : a.eval d = .slice dp dLen dCap) (hs : a.eval s = .slice sp sLen sCap)
    (v : Value) (n : Nat) (xs : List Value) (hown : w.ownsRow 0 e 1 v n xs) (off : Nat) (cs : List Value) (hn : cs.length = Nat.min sLen dLen) (hfit : off + cs.length ≤ n)
    (hpos : 0 < cs.length → ∃ g cap, v = .slice (some ⟨g, 0, none⟩) n cap ∧ dp = some ⟨g, off, none⟩ ∧ ∃ ad, sp = some ad ∧ ∀ j u, cs[j]? = some u → w.cell? (ad.add j) = some u)
    (h1 : ∀ u ∈ cs, u.oneCell' = true)
    (h : ∀ w', w'.ownsRow 0 e 1 v n (splice xs off cs) → w.grownBy w' v.ownBlock → K (a.put o.dst (goInt cs.length)) w') :
    if Region.wanted o (yielded ops a.tmps) = true then Oper.wp P o a w K Q else E := by
  have hw : Region.wanted o (yielded ops a.tmps) = true := by simp [Region.wanted, hgd]
  rw [if_pos hw]
  by_cases h0 : cs.length = 0
  · obtain rfl : cs = [] := List.eq_nil_of_length_eq_zero h0
    have hrun := run_copy_none (P := P) w T T o.type e dp sp dLen dCap sLen sCap hu hsz (by simpa using hn.symm)
    unfold Oper.wp
    simp [execOp, ho, resolve, invoke, builtin, hd, hs, hrun, Result.andThen]
    exact h w (by simpa [splice] using hown) (World.grownBy.refl _ _)
  · obtain ⟨g, cap, rfl, rfl, ad, rfl, hsrc⟩ := hpos (by omega)
    obtain ⟨cur, hh⟩ := own_block hown (g := g) rfl
    have hcs : cur.size = cap ∧ n ≤ cap := by
      rcases hown.2 with ⟨hv, _⟩ | ⟨g', cap', cur', hv, _, hh', h1, _, h3, _⟩
      · simp at hv
      · simp only [Value.slice.injEq, Option.some.injEq, Addr.mk.injEq, and_true, true_and] at hv
        obtain ⟨rfl, rfl⟩ := hv
        rw [hh] at hh'
        simp only [Option.some.injEq, Obj.cells.injEq, and_true] at hh'
        subst hh'
        exact ⟨by omega, h1⟩
    have hrun := run_copy_row (P := P) w T T o.type e g off dLen dCap ad sLen sCap cur e cs hu hsz hh hn hsrc (by omega) h1
    have ho2 := own_splice hh hown hfit
    unfold Oper.wp
    simp [execOp, ho, resolve, invoke, builtin, hd, hs, hrun, Result.andThen]
    exact h _ (by simpa using ho2.1) (by simpa [Value.ownBlock] using ho2.2)

theorem step_append_rows (hgd : o.guard = none) (s x : Operand) (t : TypeId) (ho : o.op = .call { callee := .builtin .append, args := #[s, x], argTypes := #[t, t] })
    (e : TypeId) (z : Value) (bytes : Nat) (ht : P.underlying t = some (.slice e)) (hinfo : (P.info? e).map (fun i => (i.zero, i.size, i.bytes)) = some (some z, 1, bytes)) (hzs : z.cells.size = 1)
    (v : Value) (n : Nat) (xs : List Value) (hs : a.eval s = v) (hown : w.ownsRow 0 e 1 v n xs)
    (ao : Option Addr) (m c : Nat) (news : List Value) (hx : a.eval x = .slice ao m c) (hnone : ao = none → m = 0 ∧ c = 0) (hl : news.length = m) (hnews : ∀ ad, ao = some ad → ∀ j u, news[j]? = some u → w.cell? (ad.add j) = some u) (h1 : ∀ u ∈ news, u.oneCell' = true)
    (h63 : n + m ≤ maxLen) (hbytes : (n + m) * bytes ≤ 140737488355328)
    (h : ∀ ao' c' w', w'.ownsRow 0 e 1 (.slice ao' (n + m) c') (n + m) (xs ++ news) → w.grownBy w' v.ownBlock → (∀ b, (Value.slice ao' (n + m) c').ownBlock = some b → v.ownBlock = some b ∨ w.heap.size ≤ b) → K (a.put o.dst (.slice ao' (n + m) c')) w') :
    if Region.wanted o (yielded ops a.tmps) = true then Oper.wp P o a w K Q else E := by
  have hw : Region.wanted o (yielded ops a.tmps) = true := by simp [Region.wanted, hgd]
  rw [if_pos hw]
  obtain ⟨i, hi, hz, hsize, hby⟩ := info_parts hinfo
  have shape : ∀ {W : World} {v' : Value} {q : Nat} {ys : List Value}, W.ownsRow 0 e 1 v' q ys → ∃ ao' c', v' = .slice ao' q c' := fun {W v' q ys} hh => by
    rcases hh.2 with ⟨rfl, rfl⟩ | ⟨g, cap, _, rfl, _⟩
    · exact ⟨none, 0, rfl⟩
    · exact ⟨_, cap, rfl⟩
  cases ao with
  | none =>
    obtain ⟨rfl, rfl⟩ := hnone rfl
    obtain rfl : news = [] := List.eq_nil_of_length_eq_zero hl
    have hrun := run_append_owned_none (P := P) w 0 t o.type e i 1 ht hi v n xs hown
    obtain ⟨ao', c', rfl⟩ := shape hown
    unfold Oper.wp
    simp [execOp, ho, resolve, invoke, builtin, hs, hx, hrun, Result.andThen]
    exact h ao' c' w (by simpa using hown) (World.grownBy.refl _ _) (fun b hb => .inl hb)
  | some ad =>
    obtain ⟨v', w', hr, r1, r2, _, r5⟩ := run_append_own_at (P := P) w 0 t o.type e i z 1 bytes ht hi hz hsize hby hzs (by decide) v n xs hown ad m c news (by omega) (hnews ad rfl) h1 h63 hbytes (Nat.zero_le _)
    obtain ⟨ao', c', rfl⟩ := shape r1
    unfold Oper.wp
    simp [execOp, ho, resolve, invoke, builtin, hs, hx, hr, Result.andThen]
    refine h ao' c' w' r1 r2 (fun b hb => ?_)
    rcases r5 with r5 | r5
    · exact .inl (by rw [← r5]; exact hb)
    · right
      rw [hb] at r5
      simp at r5
      omega
end

/-! ### The frame -/
/-- Outside S nothing has turned. -/
structure Fr (S : Nat → Prop) (w w' : World) : Prop where
  os : w'.os = w.os
  tape : w'.tape = w.tape
  output : w'.output = w.output
  size : w.heap.size ≤ w'.heap.size
  block : ∀ b, ¬ S b → w'.heap[b]? = w.heap[b]?

section
variable {S : Nat → Prop} {w w' w'' : World}
theorem Fr.refl (S : Nat → Prop) (w : World) : Fr S w w := ⟨rfl, rfl, rfl, Nat.le_refl _, fun _ _ => rfl⟩
theorem Fr.trans (h : Fr S w w') (k : Fr S w' w'') : Fr S w w'' :=
  ⟨k.os.trans h.os, k.tape.trans h.tape, k.output.trans h.output, Nat.le_trans h.size k.size, fun b hb => (k.block b hb).trans (h.block b hb)⟩
theorem Fr.grown (h : Fr S w w') {row : Option Nat} (hg : w'.grownBy w'' row) (hr : ∀ b, row = some b → S b) (hS : ∀ b, w'.heap.size ≤ b → S b) : Fr S w w'' :=
  h.trans ⟨hg.os, hg.tape, hg.output, hg.size, fun b hb => hg.block b (Nat.lt_of_not_le (fun hl => hb (hS b hl))) (fun e => hb (hr b e.symm))⟩
theorem Fr.setCell (h : Fr S w w') {p : Addr} (hp : S p.block) (u : Value) : Fr S w (w'.setCell p u) :=
  h.trans ⟨rfl, rfl, rfl, by simp [World.setCell], fun b hb => Below.heap_setCell _ _ _ _ (fun e => hb (e ▸ hp))⟩
theorem Fr.drew (h : Fr S w w') : Fr S w w'.drew := ⟨h.os, h.tape, h.output, h.size, h.block⟩
theorem Fr.drewN (h : Fr S w w') (n : Nat) : Fr S w (w'.drewN n) := ⟨h.os, h.tape, h.output, h.size, h.block⟩
theorem Fr.alloc (h : Fr S w w') (hS : ∀ b, w'.heap.size ≤ b → S b) (o : Obj) : Fr S w (w'.alloc o) :=
  h.grown (World.grownBy_alloc w' o none) (fun b e => by cases e) hS
theorem Fr.below {B : Nat} (h : Fr S w w') (hB : ∀ b, S b → B ≤ b) : Below B w w' :=
  ⟨h.os, h.tape, h.output, h.size, fun b hb => h.block b (fun hs => by have := hB b hs; omega)⟩
end

/-! ### The store -/
def ff (vK vN vM : Value) (most : Int) (prune : Bool) : Nat → Value
  | 0 => vK
  | 1 => vN
  | 2 => vM
  | 3 => .int .i64 most
  | 4 => .bool prune
  | _ => undef

theorem ff_set0 (vK vN vM v : Value) (most : Int) (prune : Bool) (j : Nat) : (if j = 0 then v else ff vK vN vM most prune j) = ff v vN vM most prune j := by
  match j with
  | 0 | 1 | 2 | 3 | 4 => simp [ff]
  | n + 5 => simp [ff]
theorem ff_set1 (vK vN vM v : Value) (most : Int) (prune : Bool) (j : Nat) : (if j = 1 then v else ff vK vN vM most prune j) = ff vK v vM most prune j := by
  match j with
  | 0 | 1 | 2 | 3 | 4 => simp [ff]
  | n + 5 => simp [ff]
theorem ff_set2 (vK vN vM v : Value) (most : Int) (prune : Bool) (j : Nat) : (if j = 2 then v else ff vK vN vM most prune j) = ff vK vN v most prune j := by
  match j with
  | 0 | 1 | 2 | 3 | 4 => simp [ff]
  | n + 5 => simp [ff]

/-- The store's block P and its three arrays; all of them in S. -/
structure FA (S : Nat → Prop) (w : World) (P : Nat) (most : Int) (prune : Bool) (vK vN vM : Value) (xk xn xm : List Value) : Prop where
  pool : w.rowIs P 67 5 (ff vK vN vM most prune)
  keys : w.ownsRow 0 9 1 vK xk.length xk
  need : w.ownsRow 0 3 1 vN xn.length xn
  lims : w.ownsRow 0 58 1 vM xm.length xm
  sP : S P
  sK : ∀ b, vK.ownBlock = some b → S b
  sN : ∀ b, vN.ownBlock = some b → S b
  sM : ∀ b, vM.ownBlock = some b → S b

section
variable {S : Nat → Prop} {w w' : World} {P : Nat} {most : Int} {prune : Bool} {vK vN vM : Value} {xk xn xm : List Value}

theorem FA.keysTo (h : FA S w P most prune vK vN vM xk xn xm) {n : Nat} {xk' : List Value} (hg : w.grownBy w' vK.ownBlock) (ho : w'.ownsRow 0 9 1 vK n xk') (hl : xk'.length = n) : FA S w' P most prune vK vN vM xk' xn xm where
  pool := row_grown h.pool hg (row_ne h.pool h.keys (by decide))
  keys := by rw [hl]; exact ho
  need := h.need.kept hg (own_ne h.need h.keys (by decide))
  lims := h.lims.kept hg (own_ne h.lims h.keys (by decide))
  sP := h.sP
  sK := h.sK
  sN := h.sN
  sM := h.sM
theorem FA.needTo (h : FA S w P most prune vK vN vM xk xn xm) {n : Nat} {xn' : List Value} (hg : w.grownBy w' vN.ownBlock) (ho : w'.ownsRow 0 3 1 vN n xn') (hl : xn'.length = n) : FA S w' P most prune vK vN vM xk xn' xm where
  pool := row_grown h.pool hg (row_ne h.pool h.need (by decide))
  keys := h.keys.kept hg (own_ne h.keys h.need (by decide))
  need := by rw [hl]; exact ho
  lims := h.lims.kept hg (own_ne h.lims h.need (by decide))
  sP := h.sP
  sK := h.sK
  sN := h.sN
  sM := h.sM
theorem FA.limsTo (h : FA S w P most prune vK vN vM xk xn xm) {n : Nat} {xm' : List Value} (hg : w.grownBy w' vM.ownBlock) (ho : w'.ownsRow 0 58 1 vM n xm') (hl : xm'.length = n) : FA S w' P most prune vK vN vM xk xn xm' where
  pool := row_grown h.pool hg (row_ne h.pool h.lims (by decide))
  keys := h.keys.kept hg (own_ne h.keys h.lims (by decide))
  need := h.need.kept hg (own_ne h.need h.lims (by decide))
  lims := by rw [hl]; exact ho
  sP := h.sP
  sK := h.sK
  sN := h.sN
  sM := h.sM
theorem own_heap {e : TypeId} {v : Value} {n : Nat} {xs : List Value} (h : w.ownsRow 0 e 1 v n xs) (hh : w'.heap = w.heap) : w'.ownsRow 0 e 1 v n xs := by
  refine ⟨h.1, ?_⟩
  rw [hh]
  exact h.2
theorem FA.heap (h : FA S w P most prune vK vN vM xk xn xm) (hh : w'.heap = w.heap) : FA S w' P most prune vK vN vM xk xn xm :=
  ⟨h.pool.of_block (by rw [hh]), own_heap h.keys hh, own_heap h.need hh, own_heap h.lims hh, h.sP, h.sK, h.sN, h.sM⟩
theorem FA.alloc (h : FA S w P most prune vK vN vM xk xn xm) (o : Obj) : FA S (w.alloc o) P most prune vK vN vM xk xn xm :=
  ⟨h.pool.alloc o, h.keys.alloc o, h.need.alloc o, h.lims.alloc o, h.sP, h.sK, h.sN, h.sM⟩
theorem own_setP {e : TypeId} {v : Value} {n : Nat} {xs : List Value} {f : Nat → Value} (hp : w.rowIs P 67 5 f) (h : w.ownsRow 0 e 1 v n xs) (he : e ≠ 67) (i : Nat) (u : Value) : (w.setCell ⟨P, i, none⟩ u).ownsRow 0 e 1 v n xs :=
  h.kept (row := some P) ⟨rfl, rfl, rfl, by simp [World.setCell], fun k _ hk => Below.heap_setCell _ _ _ _ (fun e => hk (by rw [e]))⟩ (.inr (fun e => row_ne hp h he e.symm))

/-- The keys' array behind the append, and its field. -/
theorem FA.putKeys (h : FA S w P most prune vK vN vM xk xn xm) {n : Nat} {vK' : Value} {xk' : List Value} (hg : w.grownBy w' vK.ownBlock) (ho : w'.ownsRow 0 9 1 vK' n xk') (hl : xk'.length = n) (hs : ∀ b, vK'.ownBlock = some b → S b) :
    FA S (w'.setCell ⟨P, 0, none⟩ vK') P most prune vK' vN vM xk' xn xm := by
  have hp : w'.rowIs P 67 5 (ff vK vN vM most prune) := row_grown h.pool hg (row_ne h.pool h.keys (by decide))
  exact {
    pool := (hp.set 0 vK').congr (fun j _ => ff_set0 _ _ _ _ _ _ j)
    keys := by rw [hl]; exact own_setP hp ho (by decide) _ _
    need := own_setP hp (h.need.kept hg (own_ne h.need h.keys (by decide))) (by decide) _ _
    lims := own_setP hp (h.lims.kept hg (own_ne h.lims h.keys (by decide))) (by decide) _ _
    sP := h.sP
    sK := hs
    sN := h.sN
    sM := h.sM }
theorem FA.putNeed (h : FA S w P most prune vK vN vM xk xn xm) {n : Nat} {vN' : Value} {xn' : List Value} (hg : w.grownBy w' vN.ownBlock) (ho : w'.ownsRow 0 3 1 vN' n xn') (hl : xn'.length = n) (hs : ∀ b, vN'.ownBlock = some b → S b) :
    FA S (w'.setCell ⟨P, 1, none⟩ vN') P most prune vK vN' vM xk xn' xm := by
  have hp : w'.rowIs P 67 5 (ff vK vN vM most prune) := row_grown h.pool hg (row_ne h.pool h.need (by decide))
  exact {
    pool := (hp.set 1 vN').congr (fun j _ => ff_set1 _ _ _ _ _ _ j)
    keys := own_setP hp (h.keys.kept hg (own_ne h.keys h.need (by decide))) (by decide) _ _
    need := by rw [hl]; exact own_setP hp ho (by decide) _ _
    lims := own_setP hp (h.lims.kept hg (own_ne h.lims h.need (by decide))) (by decide) _ _
    sP := h.sP
    sK := h.sK
    sN := hs
    sM := h.sM }
theorem FA.putLims (h : FA S w P most prune vK vN vM xk xn xm) {n : Nat} {vM' : Value} {xm' : List Value} (hg : w.grownBy w' vM.ownBlock) (ho : w'.ownsRow 0 58 1 vM' n xm') (hl : xm'.length = n) (hs : ∀ b, vM'.ownBlock = some b → S b) :
    FA S (w'.setCell ⟨P, 2, none⟩ vM') P most prune vK vN vM' xk xn xm' := by
  have hp : w'.rowIs P 67 5 (ff vK vN vM most prune) := row_grown h.pool hg (row_ne h.pool h.lims (by decide))
  exact {
    pool := (hp.set 2 vM').congr (fun j _ => ff_set2 _ _ _ _ _ _ j)
    keys := own_setP hp (h.keys.kept hg (own_ne h.keys h.lims (by decide))) (by decide) _ _
    need := own_setP hp (h.need.kept hg (own_ne h.need h.lims (by decide))) (by decide) _ _
    lims := by rw [hl]; exact own_setP hp ho (by decide) _ _
    sP := h.sP
    sK := h.sK
    sN := h.sN
    sM := hs }
end

end Go.Proofs.Qxb6600123a
