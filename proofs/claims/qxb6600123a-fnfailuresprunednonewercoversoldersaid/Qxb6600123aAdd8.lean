/-
  Seat b6600123a: FnFailuresAddKeepsUncoveredAndNew: what ZZAdd leaves of the store that the law has laid.
-/
import Derived.Test.Qxb6600123aCloneOwn
import Derived.Test.Qxb6600123aBytes
import Derived.Test.Qxb6600123aOutPlain
import Derived.Test.Qxb6600123aInMore
namespace Go.Proofs.Qxb6600123a
open Go.RowKit Go.Deep
set_option linter.unusedVariables false
set_option linter.unusedSimpArgs false
attribute [local go_sem ↓] Go.wp_at_zero Go.wp_at_succ

def startsAt (n : Nat) : Code → Bool
  | .region id _ _ => id == n
  | .seq a _ => startsAt n a
  | _ => false
/-- The rest of a function's text from a region on. -/
def findTail (n : Nat) : Code → Option Code
  | .seq a b => if startsAt n a then some (.seq a b) else match findTail n a with
    | some c => some c
    | none => findTail n b
  | .loop c => findTail n c
  | .block _ c => findTail n c
  | .scope c => findTail n c
  | .cond _ a b => match findTail n a with
    | some c => some c
    | none => findTail n b
  | _ => none

theorem own_later {w w' : World} {e : TypeId} {v : Value} {n : Nat} {xs : List Value} (h : w.ownsRow 0 e 1 v n xs) (hb : Below w.heap.size w w') : w'.ownsRow 0 e 1 v n xs := by
  refine ⟨h.1, ?_⟩
  rcases h.2 with h' | ⟨g, cap, cur, rfl, hb0, hh, r⟩
  · exact .inl h'
  · exact .inr ⟨g, cap, cur, rfl, hb0, (hb.block g (h.lt g rfl).2).trans hh, r⟩

/-- A slice in blocks that stay as they are. -/
theorem In.fr {B : Nat} {S : Nat → Prop} {w w' : World} {a : Option Addr} {n c : Nat} {V : Nat → Value} (h : In B w a n c V) (hf : Fr S w w') (hs : ∀ b off, a = some ⟨b, off, none⟩ → ¬ S b) : In w'.heap.size w' a n c V :=
  ⟨h.le, h.nil, fun i hi => by
    obtain ⟨b, off, e, _, hc⟩ := h.cell i hi
    have hb := hf.block b (hs b off e)
    have hc2 : w'.cell? ⟨b, off + i, none⟩ = some (V i) := (World.cell?_of_block (w := w) (a := ⟨b, off + i, none⟩) hb).trans hc
    refine ⟨b, off, e, ?_, hc2⟩
    by_cases hlt : b < w'.heap.size
    · exact hlt
    · exfalso
      have : w'.heap[b]? = none := Array.getElem?_eq_none (by omega)
      simp [World.cell?, this] at hc2⟩

set_option maxHeartbeats 1600000 in
theorem add8 (ko no lo ao ko2 no2 kA : Option Addr) (n kco nn nco lco an aco kco2 nco2 c kC q t m P : Nat) (most : Int) (prune : Bool) (key : ByteArray) (limit C : Int) (Ks : Nat → ByteArray) (Ns Ls : Nat → Int) (f : Nat → Sta) (nw : Sta) (L : List Nat) (w4 w6 wr w7 : World)
    (hn : n ≤ 65536) (hnn : nn ≤ 1048576) (han : an ≤ 65536) (hnk : nn = n * an) (h1m : 1 ≤ most) (htk : t ≤ key.size) (hks : key.size ≤ 1048576) (htl : ∀ i, i < n → t ≤ (Ks i).size) (hsz : ∀ i, i < n → (Ks i).size ≤ 1048576)
    (hL : kpt prune t an nw f n = L) (hC : L.length = c) (hqc : q ≤ c) (hqd : fromS most (keptS prune t an nw (fstS f n)) = q) (hcc : costS prune t an nw (fstS f n) = C) (hm : c - q = m)
    (hf : sx an Ks Ns Ls = f) (ek : nw.key = key) (el : nw.lim = limit) (en : nw.need.length = an)
    (oK : w6.ownsRow 0 9 1 (.slice ko2 n kco2) n (keysV (fstS f n))) (oN : w6.ownsRow 0 3 1 (.slice no2 nn nco2) nn (needV (fstS f n))) (sK : ∀ b, (Value.slice ko2 n kco2).ownBlock = some b → w4.heap.size ≤ b) (sN : ∀ b, (Value.slice no2 nn nco2).ownBlock = some b → w4.heap.size ≤ b)
    (how : wr.ownsRow w6.heap.size 3 1 (.slice kA c kC) c (L.map (fun x => Value.int .i64 (x : Nat)))) (hs46 : w4.heap.size ≤ w6.heap.size) (hbr : Below w6.heap.size w6 wr)
    (hK : In w4.heap.size wr ko n kco (fun i => .string (Ks i))) (hN : In w4.heap.size wr no nn nco (fun i => .int .i64 (Ns i))) (hLm : In w4.heap.size wr lo n lco (fun i => .int .u64 (Ls i))) (hA : In w4.heap.size wr ao an aco (fun i => .int .i64 (nw.at i)))
    (hP : wr.heap.size < P) (hb7 : Below wr.heap.size wr w7) (hrow : w7.rowIs P 67 5 (ff (.slice ko2 n kco2) (.slice no2 nn nco2) (.slice (some ⟨wr.heap.size, 0, none⟩) n n) most prune)) (hlim : w7.rowIs wr.heap.size 58 n (fun i => .int .u64 (Ls i))) :
    Calls Try.prog 32 #[.pointer (some ⟨P, 0, none⟩), .string key, .int .i64 (t : Nat), .slice ao an aco, .int .u64 limit] w7 fun e w8 => e = .returned (.int .i64 C) ∧ ∃ (aK aN aM : Option Addr) (cK cN cM : Nat) (G : Nat → Sta) (V : Nat → Int),
      w8.cell? ⟨P, 0, none⟩ = some (.slice aK (m + 1) cK) ∧ w8.cell? ⟨P, 1, none⟩ = some (.slice aN ((m + 1) * an) cN) ∧ w8.cell? ⟨P, 2, none⟩ = some (.slice aM (m + 1) cM) ∧ P < w8.heap.size ∧
      In w8.heap.size w8 aK (m + 1) cK (fun i => .string (G i).key) ∧ In w8.heap.size w8 aN ((m + 1) * an) cN (fun x => .int .i64 (V x)) ∧ In w8.heap.size w8 aM (m + 1) cM (fun i => .int .u64 (G i).lim) ∧
      (∀ i r, r < an → V (i * an + r) = (G i).at r) ∧ (∀ i, i < m → ∃ x, x < n ∧ L[q + i]? = some x ∧ G i = f x) ∧ G m = nw ∧
      In w8.heap.size w8 ko n kco (fun i => .string (Ks i)) ∧ In w8.heap.size w8 no nn nco (fun i => .int .i64 (Ns i)) ∧ In w8.heap.size w8 lo n lco (fun i => .int .u64 (Ls i)) ∧ In w8.heap.size w8 ao an aco (fun i => .int .i64 (nw.at i)) ∧
      In w8.heap.size w8 kA c kC (fun i => .int .i64 (L.getD i 0 : Nat)) ∧ Below w4.heap.size w7 w8 := by
  have hsr := hbr.size
  have h4r : w4.heap.size ≤ wr.heap.size := Nat.le_trans hs46 hsr
  have hwf : ∀ i, (f i).need.length = an := fun i => by rw [← hf]; exact sx_len ..
  have hfk : ∀ i, (f i).key = Ks i := fun i => by rw [← hf]; rfl
  have hfl : ∀ i, (f i).lim = Ls i := fun i => by rw [← hf]; rfl
  have hS : ∀ b, w7.heap.size ≤ b → (w4.heap.size ≤ b ∧ (Value.slice kA c kC).ownBlock ≠ some b) := fun b hb => by
    have h7 := hb7.size
    refine ⟨by omega, fun e => ?_⟩
    have := (how.lt b e).2
    omega
  have hlims : limsV (fstS f n) = (List.range n).map (fun i => .int .u64 (Ls i)) := by simp [limsV, fstS, hfl]
  have hwid : Wid an (fstS f n) := fun s hs => by
    obtain ⟨i, _, rfl⟩ := mem_fst f hs
    exact hwf i
  have hfa : FA (fun b => w4.heap.size ≤ b ∧ (Value.slice kA c kC).ownBlock ≠ some b) w7 P most prune (.slice ko2 (fstS f n).length kco2) (.slice no2 ((fstS f n).length * an) nco2) (.slice (some ⟨wr.heap.size, 0, none⟩) (fstS f n).length n) (keysV (fstS f n)) (needV (fstS f n)) (limsV (fstS f n)) := by
    rw [len_fst, ← hnk]
    refine ⟨hrow, ?_, ?_, ?_, ⟨by omega, fun e => ?_⟩, fun b hb => ⟨sK b hb, fun e => ?_⟩, fun b hb => ⟨sN b hb, fun e => ?_⟩, fun b hb => ⟨?_, fun e => ?_⟩⟩
    · rw [len_keysV, len_fst]; exact own_later (own_later oK hbr) hb7
    · rw [len_needV hwid, len_fst, ← hnk]; exact own_later (own_later oN hbr) hb7
    · rw [len_limsV, len_fst]
      exact own_of_row hlim (by unfold maxLen; omega) (limsV (fstS f n)) (by rw [len_limsV, len_fst]) (fun i hi => by rw [hlims]; simp [hi])
    · have := (how.lt P e).2; omega
    · have h1 := (how.lt b e).1; have h2 := (oK.lt b hb).2; omega
    · have h1 := (how.lt b e).1; have h2 := (oN.lt b hb).2; omega
    · cases hb; exact h4r
    · cases hb; exact absurd (how.lt _ e).2 (Nat.lt_irrefl _)
  have hnd : In w4.heap.size w7 ao an aco (fun i => .int .i64 (nw.at i)) := hA.later (hb7.mono h4r)
  have hadd := zzadd_any (fun b => w4.heap.size ≤ b ∧ (Value.slice kA c kC).ownBlock ≠ some b) w4.heap.size P most prune an t (fstS f n) nw ko2 no2 (some ⟨wr.heap.size, 0, none⟩) kco2 nco2 n ao aco w7 hS (fun b h => h.1) hfa hwid en hnd h1m (by rw [len_fst]; omega) han (by rw [len_fst, ← hnk]; omega) (by rw [ek]; exact htk)
    (fun s hs => by obtain ⟨i, hi, rfl⟩ := mem_fst f hs; rw [hfk]; exact ⟨htl i hi, hsz i hi⟩) (by rw [ek]; exact hks)
  rw [ek, el, hcc] at hadd
  refine hadd.mono ?_
  rintro e w8 ⟨rfl, aK, aN, aM, cK, cN, cM, f8, r8⟩
  have hac := add_cells most prune t an nw f n q m hwf en hqd (by rw [hL, hC]; exact hm) (by rw [hL, hC]; exact hqc)
  simp only at hac
  obtain ⟨A, hAe⟩ : ∃ A, addS most prune t an (fstS f n) nw = A := ⟨_, rfl⟩
  rw [hAe] at f8 hac
  obtain ⟨hAl, hAw, hAf, hAm⟩ := hac
  obtain ⟨V, hVk, hVl, hVn, hVa⟩ := out_cells hAl hAw nw
  have o1 := f8.keys
  have o2 := f8.need
  have o3 := f8.lims
  rw [len_keysV, hAl] at o1
  rw [len_needV hAw, hAl] at o2
  rw [len_limsV, hAl] at o3
  have c0 : w8.cell? ⟨P, 0, none⟩ = some (.slice aK A.length cK) := f8.pool.cell (by omega)
  have c1 : w8.cell? ⟨P, 1, none⟩ = some (.slice aN (A.length * an) cN) := f8.pool.cell (by omega)
  have c2 : w8.cell? ⟨P, 2, none⟩ = some (.slice aM A.length cM) := f8.pool.cell (by omega)
  rw [hAl] at c0 c1 c2
  have hb8 : Below w4.heap.size w7 w8 := r8.below (fun b h => h.1)
  have h48 : w4.heap.size ≤ w8.heap.size := by have := hb7.size; have := hb8.size; omega
  have hb47 : Below w4.heap.size wr w7 := hb7.mono h4r
  have hkp : In wr.heap.size wr kA c kC (fun i => .int .i64 (L.getD i 0 : Nat)) := In.own (own_zero how) (fun i hi => by simp [List.getD_eq_getElem?_getD, hC, hi])
  refine ⟨rfl, aK, aN, aM, cK, cN, cM, fun i => A.getD i nw, V, c0, c1, c2, f8.pool.lt, In.own o1 hVk, In.own o2 hVn, In.own o3 hVl, hVa, fun i hi => ?_, ?_, ((hK.later hb47).later hb8).lift h48, ((hN.later hb47).later hb8).lift h48, ((hLm.later hb47).later hb8).lift h48, ((hA.later hb47).later hb8).lift h48, ?_, hb8⟩
  · obtain ⟨x, hx, h1, h2⟩ := hAf i hi
    rw [hL] at h1
    exact ⟨x, hx, h1, by show A.getD i nw = f x; simp [List.getD_eq_getElem?_getD, h2]⟩
  · show A.getD m nw = nw
    simp [List.getD_eq_getElem?_getD, hAm]
  · exact (hkp.next hb7).fr r8 (fun b off e h => h.2 (by rw [e]; rfl))
end Go.Proofs.Qxb6600123a
