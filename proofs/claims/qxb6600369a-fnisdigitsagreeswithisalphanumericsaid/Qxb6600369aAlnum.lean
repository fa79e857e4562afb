/-
  Seat b6600369a: contracts of the tests on bytes.
-/
import Derived.Test.Qxb6600369aRows
import Derived.WalkKit
namespace Go.Proofs.Qxb6600369a
open Go.RowKit
set_option linter.unusedVariables false
set_option linter.unusedSimpArgs false

/-- A digit; a letter or a digit of ASCII. -/
def dgN (c : Nat) : Bool := decide (48 ≤ c ∧ c ≤ 57)
def ltN (c : Nat) : Bool := decide ((65 ≤ c ∧ c ≤ 90) ∨ (97 ≤ c ∧ c ≤ 122))
def anN (c : Nat) : Bool := decide ((48 ≤ c ∧ c ≤ 57) ∨ (65 ≤ c ∧ c ≤ 90) ∨ (97 ≤ c ∧ c ≤ 122))

/-- Does p hold of every byte of s; of one of them. -/
def allB (p : Nat → Bool) (s : ByteArray) : Bool := decide (∀ i (h : i < s.size), p s[i].toNat = true)
def anyB (p : Nat → Bool) (s : ByteArray) : Bool := !allB (fun c => !p c) s
theorem allB_iff (p : Nat → Bool) (s : ByteArray) : allB p s = true ↔ ∀ i (h : i < s.size), p s[i].toNat = true := by simp [allB]
theorem allB_false {p : Nat → Bool} {s : ByteArray} {k : Nat} (h : k < s.size) (hn : p s[k].toNat = false) : allB p s = false := by
  cases e : allB p s
  · rfl
  · have := (allB_iff p s).1 e k h
    rw [hn] at this
    cases this
theorem allB_step {p : Nat → Bool} {s : ByteArray} {k : Nat} (h : k < s.size) (ha : ∀ i (h : i < s.size), i < k → p s[i].toNat = true) (hy : p s[k].toNat = true) : ∀ i (h : i < s.size), i < k + 1 → p s[i].toNat = true := by
  intro i hi hk
  by_cases e : i = k
  · subst e; exact hy
  · exact ha i hi (by omega)

set_option maxHeartbeats 800000 in
theorem alnum13 (s : ByteArray) (w : World) (hs : s.size ≤ maxLen) :
    Calls Try.prog 13 #[.string s] w fun e w' => e = .returned (.bool (allB anN s)) ∧ w' = w := by
  unfold maxLen at hs
  go_enter Try.func13, Try.ntmps13
  go_wp2
  go_loop [3] (fun i => ∃ k : Nat, k ≤ s.size ∧ i = .int .i64 k ∧ ∀ i (h : i < s.size), i < k → anN s[i].toNat = true) (fun i => s.size - (intOf i).toNat)
  case atStart => exact ⟨0, Nat.zero_le _, rfl, fun i _ h => absurd h (by omega)⟩
  case round =>
    obtain ⟨k, hk, rfl, hall⟩ := hrel
    have HA : Hid _ := hall
    clear hall
    by_cases hlt : k < s.size
    · have HY : Hid (anN s[k].toNat = true → ∀ i (h : i < s.size), i < k + 1 → anN s[i].toNat = true) := allB_step hlt HA.out
      have HN : Hid (anN s[k].toNat = false → allB anN s = false) := allB_false hlt
      clear HA
      go_wp2
      all_goals
        first
          | (go_round
             case rel => exact ⟨k + 1, by omega, by go_num, HY.out (decide_eq_true (by first | omega | (simp only [Bool.not_eq_true', Bool.not_eq_false', decide_eq_true_eq, decide_eq_false_iff_not] at *; omega)))⟩
             case measure => simp [intOf]; omega)
          | (go_ret
             exact ⟨by rw [HN.out (decide_eq_false (by first | omega | (simp only [Bool.not_eq_true', Bool.not_eq_false', decide_eq_true_eq, decide_eq_false_iff_not] at *; omega)))]; rfl, rfl⟩)
    · go_wp2
      go_ret
      exact ⟨by rw [(allB_iff anN s).2 (fun i h => HA.out i h (by omega))]; rfl, rfl⟩

set_option maxHeartbeats 800000 in
theorem zzalnum (s : ByteArray) (w : World) (hs : s.size ≤ maxLen) :
    Calls Try.prog 8 #[.string s] w fun e w' => e = .returned (.bool (allB anN s)) ∧ w' = w := by
  go_enter Try.func8, Try.ntmps8
  go_wp2_with (go_at_call 13; refine (alnum13 _ _ hs).mono ?_; rintro e w' ⟨rfl, rfl⟩)
  go_ret
  exact ⟨rfl, rfl⟩

theorem bytes6 (s : ByteArray) (w : World) (hs : s.size ≤ maxLen) : Calls Try.prog 6 #[.string s] w fun e w' => ∃ b, e = .returned (.bool b) ∧ w' = w := by
  unfold maxLen at hs
  go_enter Try.func6, Try.ntmps6
  go_wp2
  all_goals (go_ret; exact ⟨_, rfl, rfl⟩)
theorem bytes10 (s : ByteArray) (w : World) (hs : s.size ≤ maxLen) : Calls Try.prog 10 #[.string s] w fun e w' => ∃ b, e = .returned (.bool b) ∧ w' = w := by
  unfold maxLen at hs
  go_enter Try.func10, Try.ntmps10
  go_wp2
  all_goals (go_ret; exact ⟨_, rfl, rfl⟩)

set_option maxHeartbeats 800000 in
theorem digits14 (s : ByteArray) (w : World) (hs : s.size ≤ maxLen) :
    Calls Try.prog 14 #[.string s] w fun e w' => e = .returned (.bool (allB dgN s && !s.toList.isEmpty)) ∧ w' = w := by
  unfold maxLen at hs
  go_enter Try.func14, Try.ntmps14
  go_wp2
  go_loop [3] (fun i => ∃ k : Nat, k ≤ s.size ∧ i = .int .i64 k ∧ ∀ i (h : i < s.size), i < k → dgN s[i].toNat = true) (fun i => s.size - (intOf i).toNat)
  case atStart => exact ⟨0, Nat.zero_le _, rfl, fun i _ h => absurd h (by omega)⟩
  case round =>
    obtain ⟨k, hk, rfl, hall⟩ := hrel
    have HA : Hid _ := hall
    clear hall
    by_cases hlt : k < s.size
    · have HY : Hid (dgN s[k].toNat = true → ∀ i (h : i < s.size), i < k + 1 → dgN s[i].toNat = true) := allB_step hlt HA.out
      have HN : Hid (dgN s[k].toNat = false → allB dgN s = false) := allB_false hlt
      clear HA
      go_wp2
      all_goals
        first
          | (go_round
             case rel => exact ⟨k + 1, by omega, by go_num, HY.out (decide_eq_true (by omega))⟩
             case measure => simp [intOf]; omega)
          | (go_ret
             exact ⟨by rw [HN.out (decide_eq_false (by omega))]; rfl, rfl⟩)
    · go_wp2
      all_goals
        go_ret
        exact ⟨by rw [(allB_iff dgN s).2 (fun i h => HA.out i h (by omega))]; rfl, rfl⟩

/-- The 62 bytes. -/
def tab : ByteArray := ⟨#[48, 49, 50, 51, 52, 53, 54, 55, 56, 57, 65, 66, 67, 68, 69, 70, 71, 72, 73, 74, 75, 76, 77, 78, 79, 80, 81, 82, 83, 84, 85, 86, 87, 88, 89, 90, 97, 98, 99, 100, 101, 102, 103, 104, 105, 106, 107, 108, 109, 110, 111, 112, 113, 114, 115, 116, 117, 118, 119, 120, 121, 122]⟩
theorem tab_in : ∀ k : Fin 62, anN (tab.data[k.1]!).toNat = true := by decide +kernel
theorem tab_all : ∀ c : Fin 256, anN c.1 = true → ∃ k : Fin 62, (tab.data[k.1]!).toNat = c.1 := by decide +kernel
theorem tab_let : ∀ k : Fin 62, 10 ≤ k.1 → ltN (tab.data[k.1]!).toNat = true := by decide +kernel
theorem let_all : ∀ c : Fin 256, ltN c.1 = true → ∃ k : Fin 62, 10 ≤ k.1 ∧ (tab.data[k.1]!).toNat = c.1 := by decide +kernel
theorem tab_at (k : Nat) (h : k < tab.size) : tab[k].toNat = (tab.data[k]!).toNat := by
  have h' : k < tab.data.size := h
  rw [getElem!_pos tab.data k h']
  rfl
theorem tab_yes {k : Nat} {c : UInt8} (h : k < tab.size) (e : tab[k].toNat = c.toNat) : anN c.toNat = true := by
  rw [← e, tab_at]
  exact tab_in ⟨k, h⟩
theorem tab_no {c : UInt8} (h : ∀ k (h : k < tab.size), tab[k].toNat ≠ c.toNat) : anN c.toNat = false := by
  cases e : anN c.toNat
  · rfl
  · obtain ⟨k, hk⟩ := tab_all ⟨c.toNat, c.toNat_lt⟩ e
    exact absurd ((tab_at k.1 k.2).trans hk) (h k.1 k.2)
theorem let_yes {k : Nat} {c : UInt8} (h : k < tab.size) (h10 : 10 ≤ k) (e : tab[k].toNat = c.toNat) : ltN c.toNat = true := by
  rw [← e, tab_at]
  exact tab_let ⟨k, h⟩ h10
theorem let_no {c : UInt8} (h : ∀ k (h : k < tab.size), 10 ≤ k → tab[k].toNat ≠ c.toNat) : ltN c.toNat = false := by
  cases e : ltN c.toNat
  · rfl
  · obtain ⟨k, h10, hk⟩ := let_all ⟨c.toNat, c.toNat_lt⟩ e
    exact absurd ((tab_at k.1 k.2).trans hk) (h k.1 k.2 h10)

set_option maxHeartbeats 800000 in
theorem inalnum7 (c : UInt8) (w : World) :
    Calls Try.prog 7 #[.int .u8 (c.toNat : Int)] w fun e w' => e = .returned (.bool (anN c.toNat)) ∧ w' = w := by
  go_enter Try.func7, Try.ntmps7
  go_wp2
  go_loop [3] (fun i => ∃ k : Nat, k ≤ 62 ∧ i = .int .i64 k ∧ ∀ i (h : i < tab.size), i < k → tab[i].toNat ≠ c.toNat) (fun i => 62 - (intOf i).toNat)
  case atStart => exact ⟨0, Nat.zero_le _, rfl, fun i _ h => absurd h (by omega)⟩
  case round =>
    obtain ⟨k, hk, rfl, hall⟩ := hrel
    have HA : Hid _ := hall
    clear hall
    by_cases hlt : k < 62
    · have hlt' : k < tab.size := hlt
      go_wp2
      · have he : tab[k].toNat = c.toNat := by
          have h := ‹(_ == _) = true›
          have h2 := eq_of_beq h
          exact Int.ofNat.inj h2
        have ha := tab_yes hlt' he
        go_ret
        exact ⟨by rw [ha]; rfl, rfl⟩
      · have he : tab[k].toNat ≠ c.toNat := by
          intro e
          have h := ‹(_ == _) = false›
          have h2 := ne_of_beq_false h
          exact h2 (congrArg Int.ofNat e)
        have HB : Hid (∀ i (h : i < tab.size), i < k + 1 → tab[i].toNat ≠ c.toNat) := by
          intro i h hi
          by_cases e : i = k
          · subst e; exact he
          · exact HA.out i h (by omega)
        go_round
        case rel => exact ⟨k + 1, by omega, by go_num, HB.out⟩
        case measure => simp [intOf]; omega
    · have HA2 : Hid _ := tab_no (fun i h => HA.out i h (Nat.lt_of_lt_of_le (show i < 62 from h) (by omega)))
      go_wp2
      go_ret
      exact ⟨by rw [HA2.out]; rfl, rfl⟩

set_option maxHeartbeats 800000 in
theorem letter15 (c : UInt8) (w : World) :
    Calls Try.prog 15 #[.int .u8 (c.toNat : Int)] w fun e w' => e = .returned (.bool (ltN c.toNat)) ∧ w' = w := by
  go_enter Try.func15, Try.ntmps15
  go_wp2
  go_loop [3] (fun i => ∃ k : Nat, k ≤ 62 ∧ 10 ≤ k ∧ i = .int .i64 k ∧ ∀ i (h : i < tab.size), 10 ≤ i → i < k → tab[i].toNat ≠ c.toNat) (fun i => 62 - (intOf i).toNat)
  case atStart => exact ⟨10, by omega, by omega, rfl, fun i _ h10 h => absurd h (by omega)⟩
  case round =>
    obtain ⟨k, hk, hk10, rfl, hall⟩ := hrel
    have HA : Hid _ := hall
    clear hall
    by_cases hlt : k < 62
    · have hlt' : k < tab.size := hlt
      go_wp2
      · have he : tab[k].toNat = c.toNat := by
          have h := ‹(_ == _) = true›
          have h2 := eq_of_beq h
          exact Int.ofNat.inj h2
        have ha := let_yes hlt' hk10 he
        go_ret
        exact ⟨by rw [ha]; rfl, rfl⟩
      · have he : tab[k].toNat ≠ c.toNat := by
          intro e
          have h := ‹(_ == _) = false›
          have h2 := ne_of_beq_false h
          exact h2 (congrArg Int.ofNat e)
        have HB : Hid (∀ i (h : i < tab.size), 10 ≤ i → i < k + 1 → tab[i].toNat ≠ c.toNat) := by
          intro i h h10 hi
          by_cases e : i = k
          · subst e; exact he
          · exact HA.out i h h10 (by omega)
        go_round
        case rel => exact ⟨k + 1, by omega, by omega, by go_num, HB.out⟩
        case measure => simp [intOf]; omega
    · have HA2 : Hid _ := let_no (fun i h h10 => HA.out i h h10 (Nat.lt_of_lt_of_le (show i < 62 from h) (by omega)))
      go_wp2
      go_ret
      exact ⟨by rw [HA2.out]; rfl, rfl⟩

set_option maxHeartbeats 800000 in
theorem hasletter12 (s : ByteArray) (w : World) (hs : s.size ≤ maxLen) :
    Calls Try.prog 12 #[.string s] w fun e w' => e = .returned (.bool (!allB (fun c => !ltN c) s)) ∧ w' = w := by
  unfold maxLen at hs
  go_enter Try.func12, Try.ntmps12
  go_wp2
  go_loop [3] (fun i => ∃ k : Nat, k ≤ s.size ∧ i = .int .i64 k ∧ ∀ i (h : i < s.size), i < k → (!ltN s[i].toNat) = true) (fun i => s.size - (intOf i).toNat)
  case atStart => exact ⟨0, Nat.zero_le _, rfl, fun i _ h => absurd h (by omega)⟩
  case round =>
    obtain ⟨k, hk, rfl, hall⟩ := hrel
    have HA : Hid _ := hall
    clear hall
    by_cases hlt : k < s.size
    · have HY : Hid ((!ltN s[k].toNat) = true → ∀ i (h : i < s.size), i < k + 1 → (!ltN s[i].toNat) = true) := allB_step (p := fun c => !ltN c) hlt HA.out
      have HN : Hid ((!ltN s[k].toNat) = false → allB (fun c => !ltN c) s = false) := allB_false (p := fun c => !ltN c) hlt
      have HC : Hid _ := letter15 s[k] w
      obtain ⟨b, hb⟩ : ∃ b, ltN s[k].toNat = b := ⟨_, rfl⟩
      rw [hb] at HY HN HC
      clear HA hb
      cases b
      · go_wp2_with (go_at_call 15; refine Calls.mono HC.out ?_; rintro e w' ⟨rfl, rfl⟩)
        go_round
        case rel => exact ⟨k + 1, by omega, by go_num, HY.out rfl⟩
        case measure => simp [intOf]; omega
      · go_wp2_with (go_at_call 15; refine Calls.mono HC.out ?_; rintro e w' ⟨rfl, rfl⟩)
        go_ret
        exact ⟨by rw [HN.out rfl]; rfl, rfl⟩
    · have HA2 : Hid _ := (allB_iff (fun c => !ltN c) s).2 (fun i h => HA.out i h (by omega))
      go_wp2
      go_ret
      exact ⟨by rw [HA2.out]; rfl, rfl⟩

set_option maxHeartbeats 800000 in
theorem zzdigits (s : ByteArray) (w : World) (hs : s.size ≤ maxLen) :
    Calls Try.prog 11 #[.string s] w fun e w' => e = .returned (.bool (allB dgN s && !s.toList.isEmpty)) ∧ w' = w := by
  go_enter Try.func11, Try.ntmps11
  go_wp2_with (go_at_call 14; refine (digits14 _ _ hs).mono ?_; rintro e w' ⟨rfl, rfl⟩)
  go_ret
  exact ⟨rfl, rfl⟩

theorem dg_iff (c : Nat) : dgN c = (anN c && !ltN c) := by
  rw [Bool.eq_iff_iff]
  simp [dgN, anN, ltN]
  omega
theorem all_dg (s : ByteArray) : allB dgN s = (allB anN s && allB (fun c => !ltN c) s) := by
  rw [Bool.eq_iff_iff, Bool.and_eq_true, allB_iff, allB_iff, allB_iff]
  constructor
  · intro h
    refine ⟨fun i hi => ?_, fun i hi => ?_⟩
    · have := h i hi
      rw [dg_iff, Bool.and_eq_true] at this
      exact this.1
    · have := h i hi
      rw [dg_iff, Bool.and_eq_true] at this
      exact this.2
  · rintro ⟨h1, h2⟩ i hi
    rw [dg_iff, Bool.and_eq_true]
    exact ⟨h1 i hi, h2 i hi⟩

end Go.Proofs.Qxb6600369a
