/-
  Seat b6600123a: countedWithin, covers, ZZCovers.
-/
import Derived.Test.Qxb6600123aBase
import Derived.Deep.QuietTactic
import Derived.BigQuiet
namespace Go.Proofs.Qxb6600123a
open Go.RowKit Go.Deep
set_option linter.unusedVariables false

/-- The byte at place k. -/
def byteAt (a : ByteArray) (k : Nat) : Int := ((a.data.toList.getD k 0).toNat : Int)
theorem byteAt_lt (a : ByteArray) (k : Nat) (h : k < a.size) : byteAt a k = (a[k].toNat : Int) := by
  have h' : k < a.data.size := h
  have : a.data.toList.getD k 0 = a[k] := by
    simp only [List.getD_eq_getElem?_getD, Array.getElem?_toList]
    rw [Array.getElem?_eq_getElem h']
    rfl
  unfold byteAt
  rw [this]

theorem ret_bool {a b : Bool} (h : a = b) : Ending.returned (.bool a) = .returned (.bool b) := by rw [h]
theorem ret_cov {a b : Bool} {x y : Int} (h : a = b) (h2 : x = y) : Ending.returned (.tuple #[.bool a, .int .i64 x]) = .returned (.tuple #[.bool b, .int .i64 y]) := by rw [h, h2]

/-- Byte k of the one has a bit that the other lacks. -/
def badB (a b : ByteArray) (k : Nat) : Bool := bits BinOp.andNot IntKind.u8 (byteAt a k) (byteAt b k) != 0
def wiTo (a b : ByteArray) : Nat → Bool
  | 0 => true
  | k + 1 => wiTo a b k && !badB a b k

theorem wiTo_bad (a b : ByteArray) (k n : Nat) (h : k < n) (hb : badB a b k = true) : wiTo a b n = false := by
  induction n with
  | zero => omega
  | succ n ih =>
    by_cases e : k = n
    · subst e; simp [wiTo, hb]
    · simp [wiTo, ih (by omega)]

set_option maxRecDepth 100000 in
theorem within_any (a b : ByteArray) (w : World) (hb : b.size ≤ 1048576) (hab : b.size ≤ a.size) :
    Calls Try.prog 44 #[.string a, .string b] w fun e w' => e = .returned (.bool (wiTo a b b.size)) ∧ ∃ d, w' = w.drewN d := by
  go_enter Try.func44, Try.ntmps44
  go_wp2
  go_loopw [8] (fun i wr => ∃ k d : Nat, k ≤ b.size ∧ i = .int .i64 k ∧ Hid (wiTo a b k = true) ∧ wr = w.drewN d) (fun i _ => b.size - (intOf i).toNat)
  case atStart => exact ⟨0, 0, Nat.zero_le _, rfl, (rfl : wiTo a b 0 = true), rfl⟩
  case round =>
    obtain ⟨k, d, hk, rfl, hwi, rfl⟩ := hrel
    by_cases hlt : k < b.size
    · have i1 : (k : Int) < (b.size : Int) := by omega
      have i2 : (k : Int) < (a.size : Int) := by omega
      have HB : Hid (badB a b k = (bits BinOp.andNot IntKind.u8 ↑(a[k]'(by omega)).toNat ↑(b[k]'(by omega)).toNat != 0)) := by
        show badB a b k = _
        unfold badB
        rw [byteAt_lt a k (by omega), byteAt_lt b k hlt]
      go_wp2
      go_quiet (fail)
      go_wp2
      · go_ret
        have ht : (bits BinOp.andNot IntKind.u8 ↑(a[k]'(by omega)).toNat ↑(b[k]'(by omega)).toNat != 0) = true := by assumption
        exact ⟨ret_bool (wiTo_bad a b k b.size hlt (HB.out.trans ht)).symm, _, World.drewN_drewN _ _ _⟩
      · have ht : (bits BinOp.andNot IntKind.u8 ↑(a[k]'(by omega)).toNat ↑(b[k]'(by omega)).toNat != 0) = false := by assumption
        go_roundw
        case rel => exact ⟨k + 1, _, by omega, by go_num, (by have h1 := hwi.out; have h2 := HB.out.trans ht; show wiTo a b (k + 1) = true; simp [wiTo, h1, h2]), rfl⟩
        case measure => simp [intOf]; omega
    · obtain rfl : k = b.size := by omega
      go_wp2
      go_ret
      exact ⟨ret_bool hwi.out.symm, _, rfl⟩

/-- The needs are met up to place r. -/
def okTo (fN N : Nat → Int) : Nat → Bool
  | 0 => true
  | r + 1 => okTo fN N r && !decide ((if N r < 0 then 0 else N r) < fN r)
/-- How many needs are looked at. -/
def cstTo (fN N : Nat → Int) : Nat → Int
  | 0 => 0
  | r + 1 => cstTo fN N r + (if okTo fN N r then 1 else 0)
def cvWithin (fk key : ByteArray) (t : Nat) : Bool := wiTo (fk.extract 0 t) (key.extract 0 t) t
/-- What covers answers: covered, and how much it compared. -/
def cvB (fk : ByteArray) (fN : Nat → Int) (fl : Int) (key : ByteArray) (t : Nat) (N : Nat → Int) (l : Int) (k : Nat) : Bool := !decide (fl < l) && (cvWithin fk key t && okTo fN N k)
def cvC (fk : ByteArray) (fN : Nat → Int) (fl : Int) (key : ByteArray) (t : Nat) (N : Nat → Int) (l : Int) (k : Nat) : Int := if fl < l then 1 else if cvWithin fk key t then 2 + (t : Int) / 8 + cstTo fN N k else 2 + (t : Int) / 8

theorem okTo_bad (fN N : Nat → Int) (r n : Nat) (h : r < n) (hb : (if N r < 0 then 0 else N r) < fN r) : okTo fN N n = false ∧ cstTo fN N n = cstTo fN N (r + 1) := by
  induction n with
  | zero => omega
  | succ n ih =>
    by_cases e : r = n
    · subst e; simp [okTo, hb]
    · have := ih (by omega)
      constructor
      · simp [okTo, this.1]
      · rw [cstTo, this.1, this.2]; simp

theorem cstTo_bound (fN N : Nat → Int) (n : Nat) : 0 ≤ cstTo fN N n ∧ cstTo fN N n ≤ n := by
  induction n with
  | zero => simp [cstTo]
  | succ n ih => simp only [cstTo]; split <;> omega

theorem cvC_bound (fk : ByteArray) (fN : Nat → Int) (fl : Int) (key : ByteArray) (t : Nat) (N : Nat → Int) (l : Int) (k : Nat) : 0 ≤ cvC fk fN fl key t N l k ∧ cvC fk fN fl key t N l k ≤ 2 + t + k := by
  have := cstTo_bound fN N k
  unfold cvC
  split
  · omega
  · split <;> omega

set_option maxRecDepth 100000 in
set_option maxHeartbeats 800000 in
theorem covers_any (fk : ByteArray) (na : Option Addr) (k nc : Nat) (fN : Nat → Int) (fl : Int) (key : ByteArray) (t : Nat) (nb : Option Addr) (k2 nc2 : Nat) (N : Nat → Int) (l : Int) (B B2 : Nat) (w : World)
    (hk : k ≤ 1048576) (hk2 : k ≤ k2) (hk3 : k2 ≤ 1048576) (ht1 : t ≤ fk.size) (ht2 : t ≤ key.size) (hs1 : fk.size ≤ 1048576) (hs2 : key.size ≤ 1048576)
    (hfN : In B w na k nc (fun i => .int .i64 (fN i))) (hN : In B2 w nb k2 nc2 (fun i => .int .i64 (N i))) :
    Calls Try.prog 41 #[.string fk, .slice na k nc, .int .u64 fl, .string key, .int .i64 t, .slice nb k2 nc2, .int .u64 l] w fun e w' =>
      e = .returned (.tuple #[.bool (cvB fk fN fl key t N l k), .int .i64 (cvC fk fN fl key t N l k)]) ∧ ∃ d, w' = w.drewN d := by
  by_cases hl : fl < l
  · have e1 : cvB fk fN fl key t N l k = false := by simp [cvB, hl]
    have e2 : cvC fk fN fl key t N l k = 1 := by simp [cvC, hl]
    rw [e1, e2]
    go_enter Try.func41, Try.ntmps41
    go_wp2
    go_ret2
    exact ⟨rfl, 0, rfl⟩
  · have i1 : (t : Int) ≤ (fk.size : Int) := by omega
    have i2 : (t : Int) ≤ (key.size : Int) := by omega
    have hz : (key.extract 0 t).size = t := by simp; omega
    have hz2 : (fk.extract 0 t).size = t := by simp; omega
    have hwa : ∀ W, Calls Try.prog 44 #[.string (fk.extract 0 t), .string (key.extract 0 t)] W fun e w' => e = .returned (.bool (cvWithin fk key t)) ∧ ∃ d, w' = W.drewN d := fun W => by
      have := within_any (fk.extract 0 t) (key.extract 0 t) W (by omega) (by omega)
      rw [hz] at this
      exact this
    have i3 : (0 : Int) ≤ (t : Int) / 8 := by omega
    have i4 : (t : Int) / 8 ≤ 131072 := by omega
    cases hw : cvWithin fk key t
    · have e1 : cvB fk fN fl key t N l k = false := by simp [cvB, hw]
      have e2 : cvC fk fN fl key t N l k = 2 + (t : Int) / 8 := by simp [cvC, hl, hw]
      rw [e1, e2]
      rw [hw] at hwa
      clear e1 e2 hw hfN hN
      go_enter Try.func41, Try.ntmps41
      go_wp2
      go_quiet ((go_at_call 44; exact Calls.quiet_of (hwa _)))
      go_wp2
      go_ret2
      exact ⟨ret_cov rfl (by omega), _, rfl⟩
    · have e1 : cvB fk fN fl key t N l k = okTo fN N k := by simp [cvB, hl, hw]
      have e2 : cvC fk fN fl key t N l k = 2 + (t : Int) / 8 + cstTo fN N k := by simp [cvC, hl, hw]
      rw [e1, e2]
      rw [hw] at hwa
      clear e1 e2 hw
      go_enter Try.func41, Try.ntmps41
      go_wp2
      go_quiet ((go_at_call 44; exact Calls.quiet_of (hwa _)))
      clear hwa hz hz2
      go_wp2
      go_loopw [15, 40] (fun c i wr => ∃ r : Nat, r ≤ k ∧ i = .int .i64 r ∧ c = .int .i64 (2 + (t : Int) / 8 + cstTo fN N r) ∧ Hid (okTo fN N r = true) ∧ wr = w.drewN nq) (fun _ i _ => k - (intOf i).toNat)
      case atStart => exact ⟨0, Nat.zero_le _, rfl, by simp [cstTo]; omega, (rfl : okTo fN N 0 = true), rfl⟩
      case round =>
        obtain ⟨r, hr, rfl, rfl, hok, rfl⟩ := hrel
        have hcb := cstTo_bound fN N r
        by_cases hlt : r < k
        · obtain ⟨b1, o1, ea1, _, c1⟩ := hfN.cell r hlt
          subst ea1
          obtain ⟨b2, o2, ea2, _, c2⟩ := hN.cell r (by omega)
          subst ea2
          have HN1 : Hid (cstTo fN N (r + 1) = cstTo fN N r + 1) := by have := hok.out; show cstTo fN N (r + 1) = _; simp [cstTo, this]
          have HO : Hid (okTo fN N (r + 1) = !decide ((if N r < 0 then 0 else N r) < fN r)) := by have := hok.out; show okTo fN N (r + 1) = _; simp [okTo, this]
          generalize cstTo fN N r = cr at *
          by_cases hbad : (if N r < 0 then 0 else N r) < fN r
          · have HE : Hid (okTo fN N k = false ∧ cstTo fN N k = cstTo fN N (r + 1)) := okTo_bad fN N r k hlt hbad
            go_wp2
            all_goals
              go_ret2
              exact ⟨ret_cov HE.out.1.symm (by rw [HE.out.2, HN1.out]; omega), _, rfl⟩
          · go_wp2
            go_roundw
            case rel => exact ⟨r + 1, by omega, by go_num, by rw [HN1.out]; go_num, (by have h := HO.out; show okTo fN N (r + 1) = true; rw [h]; simpa using hbad), by first | rfl | trivial⟩
            case measure => simp [intOf]; omega
        · obtain rfl : r = k := by omega
          go_wp2
          go_ret2
          exact ⟨ret_cov hok.out.symm rfl, _, rfl⟩
end Go.Proofs.Qxb6600123a
