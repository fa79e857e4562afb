/-
  Seat b6600123a: contracts of what the failures' laws call beside add.
-/
import Derived.Test.Qxb6600123aAdd
import Derived.Test.Qxb6600123aClone
import Derived.Deep.QuietTactic
import Derived.BigQuiet
namespace Go.Proofs.Qxb6600123a
open Go.RowKit Go.Deep
set_option linter.unusedVariables false
attribute [local go_sem ↓] Go.wp_at_zero Go.wp_at_succ

theorem own_of_row {w : World} {g t n : Nat} {f : Nat → Value} (h : w.rowIs g t n f) (hn : n ≤ maxLen) (xs : List Value) (hl : xs.length = n) (hx : ∀ i, i < n → xs[i]? = some (f i)) : w.ownsRow 0 t 1 (.slice (some ⟨g, 0, none⟩) n n) n xs := by
  obtain ⟨c, hb, hc, hi⟩ := h
  refine ⟨by omega, .inr ⟨g, n, c, rfl, Nat.zero_le _, hb, Nat.le_refl _, hn, by omega, ?_⟩⟩
  apply List.ext_getElem?
  intro i
  by_cases h : i < n
  · rw [List.getElem?_take, if_pos (by omega), hx i h, ← hi i h]
    simp
  · rw [List.getElem?_take, if_neg (by omega), List.getElem?_eq_none (by omega)]

/-! ### ZZAdd -/
set_option maxHeartbeats 800000 in
theorem zzadd_any (S : Nat → Prop) (B0 P : Nat) (most : Int) (prune : Bool) (k t : Nat) (st : List Sta) (nw : Sta) (aK aN aM : Option Addr) (cK cN cM : Nat) (na : Option Addr) (nc : Nat) (w : World)
    (hS : ∀ b, w.heap.size ≤ b → S b) (hB : ∀ b, S b → B0 ≤ b)
    (hfa : FA S w P most prune (.slice aK st.length cK) (.slice aN (st.length * k) cN) (.slice aM st.length cM) (keysV st) (needV st) (limsV st))
    (hw : Wid k st) (hwn : nw.need.length = k) (hnd : In B0 w na k nc (fun i => .int .i64 (nw.at i)))
    (hmost : 1 ≤ most) (hm : st.length ≤ 65536) (hk : k ≤ 65536) (hmk : st.length * k ≤ 1048576) (ht : t ≤ nw.key.size) (hts : ∀ s, s ∈ st → t ≤ s.key.size ∧ s.key.size ≤ 1048576) (hks : nw.key.size ≤ 1048576) :
    Calls Try.prog 32 #[.pointer (some ⟨P, 0, none⟩), .string nw.key, .int .i64 t, .slice na k nc, .int .u64 nw.lim] w fun e w' =>
      e = .returned (.int .i64 (costS prune t k nw st)) ∧ ∃ aK' aN' aM' cK' cN' cM', FA S w' P most prune (.slice aK' (addS most prune t k st nw).length cK') (.slice aN' ((addS most prune t k st nw).length * k) cN') (.slice aM' (addS most prune t k st nw).length cM')
        (keysV (addS most prune t k st nw)) (needV (addS most prune t k st nw)) (limsV (addS most prune t k st nw)) ∧ Fr S w w' := by
  have HA := add_any S B0 P most prune k t st nw aK aN aM cK cN cM na nc w hS hB hfa hw hwn hnd hmost hm hk hmk ht hts hks
  have HH : Hid _ := HA
  clear HA hfa hnd hts hS hB
  go_enter Try.func32, Try.ntmps32
  go_wp2_with fail
  refine Calls.mono HH.out ?_
  rintro e w' ⟨rfl, h⟩
  go_wp2
  go_ret
  exact ⟨rfl, h⟩

/-! ### The readers -/
theorem zzkeys_any (P : Nat) (v : Value) (w : World) (aK : Option Addr) (n cK : Nat) (hv : v = .slice aK n cK) (c0 : w.cell? ⟨P, 0, none⟩ = some v) :
    Calls Try.prog 33 #[.pointer (some ⟨P, 0, none⟩)] w fun e w' => e = .returned v ∧ w' = w := by
  subst hv
  go_enter Try.func33, Try.ntmps33
  go_wp2
  go_ret
  exact ⟨rfl, rfl⟩
theorem zzneed_any (P : Nat) (v : Value) (w : World) (aK : Option Addr) (n cK : Nat) (hv : v = .slice aK n cK) (c1 : w.cell? ⟨P, 1, none⟩ = some v) :
    Calls Try.prog 34 #[.pointer (some ⟨P, 0, none⟩)] w fun e w' => e = .returned v ∧ w' = w := by
  subst hv
  go_enter Try.func34, Try.ntmps34
  go_wp2
  go_ret
  exact ⟨rfl, rfl⟩

theorem row_fillV {wr : World} {N t n k : Nat} {V : Nat → Value} {z : Value} (hrow : wr.rowIs N t n (fun j => if j < k then V j else z)) : (wr.setCell ⟨N, k, none⟩ (V k)).rowIs N t n (fun j => if j < k + 1 then V j else z) :=
  (hrow.set k (V k)).congr (fun j _ => by
    by_cases e : j = k
    · subst e; simp
    · by_cases e2 : j < k
      · simp [e, e2, show j < k + 1 by omega]
      · simp [e, e2, show ¬ j < k + 1 by omega])

set_option maxHeartbeats 800000 in
theorem zzlimits_any (P : Nat) (aM : Option Addr) (n cM : Nat) (M : Nat → Int) (w : World) (hn : n ≤ 1048576) (hP : P < w.heap.size) (c2 : w.cell? ⟨P, 2, none⟩ = some (.slice aM n cM)) (hin : In w.heap.size w aM n cM (fun i => .int .u64 (M i))) :
    Calls Try.prog 35 #[.pointer (some ⟨P, 0, none⟩)] w fun e w' => e = .returned (.slice (some ⟨w.heap.size, 0, none⟩) n n) ∧ Below w.heap.size w w' ∧ w'.rowIs w.heap.size 41 n (fun i => .int .u64 (M i)) := by
  have hmk := run_make_row' (P := Try.prog) 33 41 (.int .u64 0) 8 Try.underlying33 info41 rfl .i64 .i64 n (by omega) (by omega)
  go_enter Try.func35, Try.ntmps35
  go_wp2
  clear hmk
  go_loopw [4] (fun i wr => ∃ k : Nat, k ≤ n ∧ i = .int .i64 k ∧ wr.rowIs w.heap.size 41 n (fun j => if j < k then .int .u64 (M j) else .int .u64 0) ∧ Below w.heap.size w wr)
    (fun i _ => n - (intOf i).toNat)
  case atStart => exact ⟨0, Nat.zero_le _, rfl, (World.rowIs_made _ _ _ _).congr (fun _ _ => by simp), (Below.refl _ _).alloc (Nat.le_refl _) _⟩
  case round =>
    obtain ⟨k, hk, rfl, hrow, hnx⟩ := hrel
    have cp : wr.cell? ⟨P, 2, none⟩ = some (.slice aM n cM) := (hnx.cell (p := ⟨P, 2, none⟩) hP).trans c2
    by_cases hlt : k < n
    · obtain ⟨b, off, rfl, hb, hc⟩ := hin.cell k hlt
      have c1 : wr.cell? ⟨b, off + k, none⟩ = some (.int .u64 (M k)) := (hnx.cell (p := ⟨b, off + k, none⟩) hb).trans hc
      have c3 : wr.cell? ⟨w.heap.size, k, none⟩ = some (.int .u64 0) := by rw [hrow.cell hlt]; simp
      have f2 : wr.frozen? ⟨w.heap.size, k, none⟩ = false := hrow.frozen k
      have HR : Hid _ := row_fillV (V := fun j => .int .u64 (M j)) hrow
      clear hrow
      go_wp2
      go_roundw
      case rel => exact ⟨k + 1, by omega, by go_num, HR.out, hnx.setCell (Nat.le_refl _) _⟩
      case measure => simp [intOf]; omega
    · obtain rfl : k = n := by omega
      go_wp2
      go_ret
      exact ⟨rfl, hnx, hrow.congr (fun j hj => by simp [hj])⟩

theorem row_ff (w : World) (vK vN vM : Value) (most : Int) (prune : Bool) : (w.alloc (.cells #[vK, vN, vM, .int .i64 most, .bool prune] 67)).rowIs w.heap.size 67 5 (ff vK vN vM most prune) :=
  World.rowIs_alloc w #[vK, vN, vM, .int .i64 most, .bool prune] 67 _ (fun i hi => by
    match i, hi with
    | 0, _ | 1, _ | 2, _ | 3, _ | 4, _ => rfl
    | n + 5, h => exact absurd h (by simp))

set_option maxHeartbeats 800000 in
theorem zznew_any (ka na la : Option Addr) (kn kc nn nc ln lc : Nat) (M : Nat → Int) (most : Int) (prune : Bool) (w : World) (hn : ln ≤ 1048576) (hin : In w.heap.size w la ln lc (fun i => .int .u64 (M i))) :
    Calls Try.prog 31 #[.slice ka kn kc, .slice na nn nc, .slice la ln lc, .int .i64 most, .bool prune] w fun e w' => ∃ P, e = .returned (.pointer (some ⟨P, 0, none⟩)) ∧ w.heap.size < P ∧ Below w.heap.size w w' ∧
      w'.rowIs P 67 5 (ff (.slice ka kn kc) (.slice na nn nc) (.slice (some ⟨w.heap.size, 0, none⟩) ln ln) most prune) ∧ w'.rowIs w.heap.size 58 ln (fun i => .int .u64 (M i)) := by
  have hmk := run_make_row' (P := Try.prog) 57 58 (.int .u64 0) 8 Try.underlying57 info58 rfl .i64 .i64 ln (by omega) (by omega)
  by_cases h0 : ln = 0
  · subst h0
    clear hin
    have hmk0 : ∀ w, (Instr.makeSlice 57 (.int .i64 0) (.int .i64 0)).run Try.prog w = .ok (.slice (some ⟨w.heap.size, 0, none⟩) 0 0) (w.alloc (.cells (madeCells #[.int .u64 0] 0) 58)) := hmk
    clear hmk
    go_enter Try.func31, Try.ntmps31
    go_wp2
    refine wp_loop_rounds 1 ?_
    rw [rounds_succ]
    go_wp2
    go_ret
    refine ⟨_, rfl, by simp, ((Below.refl _ _).alloc (Nat.le_refl _) _).alloc (by simp) _, ?_, ?_⟩
    · have e : w.heap.size + 1 = (w.alloc (.cells (madeCells #[.int .u64 0] 0) 58)).heap.size := by simp
      rw [e]
      exact row_ff _ _ _ _ _ _
    · exact ((World.rowIs_made _ _ _ _).congr (fun i hi => absurd hi (by omega))).alloc _
  · go_enter Try.func31, Try.ntmps31
    go_wp2
    clear hmk
    go_loopw [12] (fun i wr => ∃ k : Nat, k ≤ ln ∧ i = .int .i64 k ∧ wr.rowIs w.heap.size 58 ln (fun j => if j < k then .int .u64 (M j) else .int .u64 0) ∧ Below w.heap.size w wr)
      (fun i _ => ln - (intOf i).toNat)
    case atStart => exact ⟨0, Nat.zero_le _, rfl, (World.rowIs_made _ _ _ _).congr (fun _ _ => by simp), (Below.refl _ _).alloc (Nat.le_refl _) _⟩
    case round =>
      obtain ⟨k, hk, rfl, hrow, hnx⟩ := hrel
      by_cases hlt : k < ln
      · obtain ⟨b, off, rfl, hb, hc⟩ := hin.cell k hlt
        have c1 : wr.cell? ⟨b, off + k, none⟩ = some (.int .u64 (M k)) := (hnx.cell (p := ⟨b, off + k, none⟩) hb).trans hc
        have c3 : wr.cell? ⟨w.heap.size, k, none⟩ = some (.int .u64 0) := by rw [hrow.cell hlt]; simp
        have f2 : wr.frozen? ⟨w.heap.size, k, none⟩ = false := hrow.frozen k
        have HR : Hid _ := row_fillV (V := fun j => .int .u64 (M j)) hrow
        clear hrow
        go_wp2
        go_roundw
        case rel => exact ⟨k + 1, by omega, by go_num, HR.out, hnx.setCell (Nat.le_refl _) _⟩
        case measure => simp [intOf]; omega
      · obtain rfl : k = ln := by omega
        have hrow2 := hrow.congr (g := fun j => .int .u64 (M j)) (fun j hj => by simp [hj])
        have hlt2 := hrow.lt
        clear hrow
        go_wp2
        go_ret
        refine ⟨_, rfl, hlt2, hnx.alloc hnx.size _, ?_, hrow2.alloc _⟩
        exact row_ff _ _ _ _ _ _

/-! ### ZZCovers -/
theorem zzcovers_any (fk : ByteArray) (na : Option Addr) (k nc : Nat) (fN : Nat → Int) (fl : Int) (key : ByteArray) (t : Nat) (nb : Option Addr) (k2 nc2 : Nat) (N : Nat → Int) (l : Int) (B B2 : Nat) (w : World)
    (hk : k ≤ 1048576) (hk2 : k ≤ k2) (hk3 : k2 ≤ 1048576) (ht1 : t ≤ fk.size) (ht2 : t ≤ key.size) (hs1 : fk.size ≤ 1048576) (hs2 : key.size ≤ 1048576)
    (hfN : In B w na k nc (fun i => .int .i64 (fN i))) (hN : In B2 w nb k2 nc2 (fun i => .int .i64 (N i))) :
    Calls Try.prog 30 #[.string fk, .slice na k nc, .int .u64 fl, .string key, .int .i64 t, .slice nb k2 nc2, .int .u64 l] w fun e w' =>
      e = .returned (.tuple #[.bool (cvB fk fN fl key t N l k), .int .i64 (cvC fk fN fl key t N l k)]) ∧ ∃ d, w' = w.drewN d := by
  have HH : Hid _ := covers_any fk na k nc fN fl key t nb k2 nc2 N l B B2 w hk hk2 hk3 ht1 ht2 hs1 hs2 hfN hN
  clear hfN hN
  go_enter Try.func30, Try.ntmps30
  go_wp2_with fail
  refine Calls.mono HH.out ?_
  rintro e w' ⟨rfl, d, rfl⟩
  go_wp2
  go_ret2
  exact ⟨rfl, d, rfl⟩

/-! ### sameChunk -/
def sameB (f g : Nat → Int) : Nat → Bool
  | 0 => true
  | k + 1 => sameB f g k && decide (f k = g k)
theorem sameB_iff (f g : Nat → Int) (k : Nat) : sameB f g k = true ↔ ∀ r, r < k → f r = g r := by
  induction k with
  | zero => simp [sameB]
  | succ k ih =>
    simp only [sameB, Bool.and_eq_true, ih, decide_eq_true_eq]
    constructor
    · rintro ⟨h1, h2⟩ r hr
      by_cases e : r = k
      · subst e; exact h2
      · exact h1 r (by omega)
    · exact fun h => ⟨fun r hr => h r (by omega), h k (by omega)⟩
theorem sameB_false {f g : Nat → Int} {k r : Nat} (hr : r < k) (h : f r ≠ g r) : sameB f g k = false := by
  cases e : sameB f g k
  · rfl
  · exact absurd ((sameB_iff f g k).1 e r hr) h

set_option maxHeartbeats 1600000 in
theorem same_any (aa ab : Option Addr) (na ca nb cb i j k ik jk : Nat) (A B : Nat → Int) (Ba Bb : Nat) (w : World) (hik : i * k = ik) (hjk : j * k = jk) (h1 : ik + k ≤ na) (h2 : jk + k ≤ nb) (h3 : na ≤ 1048576) (h4 : nb ≤ 1048576)
    (hA : In Ba w aa na ca (fun i => .int .i64 (A i))) (hB : In Bb w ab nb cb (fun i => .int .i64 (B i))) :
    Calls Try.prog 36 #[.slice aa na ca, .int .i64 i, .slice ab nb cb, .int .i64 j, .int .i64 k] w fun e w' => e = .returned (.bool (sameB (fun r => A (ik + r)) (fun r => B (jk + r)) k)) ∧ ∃ d, w' = w.drewN d := by
  have w1 := wrap_mul hik (by omega)
  have w2 := wrap_mul hjk (by omega)
  clear hik hjk
  go_enter Try.func36, Try.ntmps36
  go_wp2
  go_loopw [11] (fun x wr => ∃ r d : Nat, r ≤ k ∧ x = .int .i64 r ∧ wr = w.drewN d ∧ sameB (fun r => A (ik + r)) (fun r => B (jk + r)) r = true) (fun x _ => k - (intOf x).toNat)
  case atStart => exact ⟨0, 0, Nat.zero_le _, rfl, rfl, rfl⟩
  case round =>
    obtain ⟨r, d, hr, rfl, rfl, hs⟩ := hrel
    have HS : Hid _ := hs
    clear hs
    by_cases hlt : r < k
    · obtain ⟨ba, oa, rfl, _, cA⟩ := hA.cell (ik + r) (by omega)
      obtain ⟨bb, ob, rfl, _, cB⟩ := hB.cell (jk + r) (by omega)
      have w3 : IntKind.i64.wrap ((ik : Int) + (r : Int)) = ((ik + r : Nat) : Int) := by rw [IntKind.wrap_i64]; omega
      have w4 : IntKind.i64.wrap ((jk : Int) + (r : Int)) = ((jk + r : Nat) : Int) := by rw [IntKind.wrap_i64]; omega
      have hxn : ik + r < na := by omega
      have hyn : jk + r < nb := by omega
      have hE : Hid (∀ x y, A (ik + r) = x → B (jk + r) = y → (x = y → sameB (fun r => A (ik + r)) (fun r => B (jk + r)) (r + 1) = true) ∧ (x ≠ y → sameB (fun r => A (ik + r)) (fun r => B (jk + r)) k = false)) := by
        rintro x y rfl rfl
        exact ⟨fun h => by simp only [sameB, HS.out, Bool.true_and, decide_eq_true_eq]; exact h, fun h => sameB_false hlt h⟩
      obtain ⟨x, hx⟩ : ∃ x, ik + r = x := ⟨_, rfl⟩
      obtain ⟨y, hy⟩ : ∃ y, jk + r = y := ⟨_, rfl⟩
      rw [hx] at w3 cA hxn
      rw [hy] at w4 cB hyn
      have e2 := hE.out (A x) (B y) (by rw [hx]) (by rw [hy])
      have HE2 : Hid _ := e2
      clear e2 hE
      have i1 : (x : Int) < (na : Int) := by omega
      have i2 : (y : Int) < (nb : Int) := by omega
      clear hx hy hA hB
      generalize A x = u at cA HE2
      generalize B y = v at cB HE2
      by_cases hd : u = v
      · have hb : (u != v) = false := by simpa using hd
        have HT := HE2.out.1 hd
        clear hd
        have HT2 : Hid _ := HT
        clear HT
        go_wp2
        go_quiet (fail)
        go_wp2
        go_roundw
        case rel => exact ⟨r + 1, _, by omega, by go_num, rfl, HT2.out⟩
        case measure => simp [intOf]; omega
      · have hb : (u != v) = true := by simpa using hd
        have HT := HE2.out.2 hd
        clear hd
        have HT2 : Hid _ := HT
        clear HT
        go_wp2
        go_quiet (fail)
        go_wp2
        go_ret
        exact ⟨by rw [HT2.out]; rfl, d + nq, World.drewN_drewN _ _ _⟩
    · obtain rfl : r = k := by omega
      go_wp2
      go_ret
      exact ⟨by rw [HS.out]; rfl, d, rfl⟩

end Go.Proofs.Qxb6600123a
