/-
  Seat b6600123a: FnFailuresPrunedNoNewerCoversOlder: the walk.
-/
import Derived.Test.Qxb6600123aMid10
import Derived.Test.Qxb6600123aBytes
import Derived.Test.Qxb6600123aClone
namespace Go.Proofs.Qxb6600123a
open Go.RowKit Go.Deep
set_option linter.unusedVariables false
set_option linter.unusedSimpArgs false
attribute [local go_sem ↓] Go.wp_at_zero Go.wp_at_succ

set_option maxRecDepth 100000 in
set_option maxHeartbeats 4000000 in
theorem walk10 (ka na la : Option Addr) (kn kc nn nc ln lc : Nat) (k most tallied : Int) (Ks : Nat → ByteArray) (Ns Ls : Nat → Int) (w : World) (hkn : kn ≤ maxLen) (hnn : nn ≤ maxLen) (hln : ln ≤ maxLen)
    (hK : In w.heap.size w ka kn kc (fun i => .string (Ks i))) (hN : In w.heap.size w na nn nc (fun i => .int .i64 (Ns i))) (hL : In w.heap.size w la ln lc (fun i => .int .u64 (Ls i))) :
    Calls Try.prog 10 #[.slice ka kn kc, .slice na nn nc, .slice la ln lc, .int .i64 k, .int .i64 most, .int .i64 tallied] w fun e w' => e = .returned (.bool true) ∧ Below w.heap.size w w' := by
  go_enter Try.func10, Try.ntmps10
  go_wp2_with fail
  refine (bytes38 ka kn kc Ks na la nn nc ln lc k most tallied _ hkn hnn hln hK).mono ?_
  rintro e w' ⟨b, rfl, hw⟩
  subst w'
  cases b
  · go_wp2
    go_ret
    exact ⟨rfl, Below.refl _ _⟩
  by_cases h1 : 1024 < kn
  · go_wp2
    go_ret
    exact ⟨rfl, Below.refl _ _⟩
  have d1 : decide ((1024 : Int) < (kn : Int)) = false := decide_eq_false (by omega)
  by_cases h2 : 131072 < nn
  · go_wp2
    go_ret
    exact ⟨rfl, Below.refl _ _⟩
  have d2 : decide ((131072 : Int) < (nn : Int)) = false := decide_eq_false (by omega)
  by_cases h3 : 1024 < ln
  · go_wp2
    go_ret
    exact ⟨rfl, Below.refl _ _⟩
  have d3 : decide ((1024 : Int) < (ln : Int)) = false := decide_eq_false (by omega)
  clear hkn hnn hln
  go_wp2
  clear d1 d2 d3
  go_loopw [13, 14] (fun z i wr => ∃ j s : Nat, j ≤ kn ∧ i = .int .i64 j ∧ z = .int .i64 s ∧ s ≤ 1064960 ∧ wr = w ∧ ∀ i', i' < j → (Ks i').size ≤ 1048576) (fun _ i _ => kn - (intOf i).toNat)
  case atStart => exact ⟨0, 8 * kn + 8 * nn + 8 * ln, Nat.zero_le _, rfl, by go_num, by omega, rfl, fun _ h => absurd h (by omega)⟩
  case round =>
    obtain ⟨j, s, hj, rfl, rfl, hs, rfl, hsz⟩ := hrel
    by_cases hlt : j < kn
    · obtain ⟨b, off, rfl, hb, hc⟩ := hK.cell j hlt
      have HSZ : Hid (∀ key, Ks j = key → key.size ≤ 1048576 → ∀ i', i' < j + 1 → (Ks i').size ≤ 1048576) := by
        rintro key rfl hk i' hi
        by_cases e : i' = j
        · subst e; exact hk
        · exact hsz i' (by omega)
      clear hK hN hL hsz
      obtain ⟨key, hkey⟩ : ∃ key, Ks j = key := ⟨_, rfl⟩
      rw [hkey] at hc
      have HSZ2 : Hid _ := HSZ.out key hkey
      clear HSZ hkey
      by_cases hz : 1048576 < key.size
      · go_wp2
        go_ret
        exact ⟨rfl, Below.refl _ _⟩
      have d2 : decide ((1048576 : Int) < (key.size : Int)) = false := decide_eq_false (by omega)
      by_cases hz2 : 1048576 < s + key.size
      · have d3 : decide ((1048576 : Int) < (s : Int) + (key.size : Int)) = true := decide_eq_true (by omega)
        go_wp2
        go_ret
        exact ⟨rfl, Below.refl _ _⟩
      · have d3 : decide ((1048576 : Int) < (s : Int) + (key.size : Int)) = false := decide_eq_false (by omega)
        go_wp2
        go_roundw
        case rel => exact ⟨j + 1, s + key.size, by omega, by go_num, by go_num, by omega, by trivial, HSZ2.out (by omega)⟩
        case measure => simp [intOf]; omega
    · obtain rfl : j = kn := by omega
      obtain ⟨w, rfl⟩ : ∃ w : World, w = wr := ⟨_, rfl⟩
      by_cases hs2 : 1048576 < s
      · go_wp2
        go_ret
        exact ⟨rfl, Below.refl _ _⟩
      have d1 : decide ((1048576 : Int) < (s : Int)) = false := decide_eq_false (by omega)
      by_cases h4 : ln = j
      rotate_left
      · have d2 : ((ln : Int) != (j : Int)) = true := by simp; omega
        go_wp2
        go_ret
        exact ⟨rfl, Below.refl _ _⟩
      subst h4
      have d2 : ((ln : Int) != (ln : Int)) = false := by simp
      by_cases h5 : k < 0
      · go_wp2
        go_ret
        exact ⟨rfl, Below.refl _ _⟩
      have d3 : decide (k < 0) = false := decide_eq_false (by omega)
      by_cases h6 : 65536 < k
      · go_wp2
        go_ret
        exact ⟨rfl, Below.refl _ _⟩
      have d4 : decide (65536 < k) = false := decide_eq_false (by omega)
      obtain ⟨kk, rfl⟩ : ∃ kk : Nat, k = (kk : Int) := ⟨k.toNat, by omega⟩
      obtain ⟨mk, hmk⟩ : ∃ mk, ln * kk = mk := ⟨_, rfl⟩
      have hmk2 : mk ≤ 67108864 := by
        rw [← hmk]
        exact Nat.mul_le_mul (show ln ≤ 1024 by omega) (show kk ≤ 65536 by omega)
      have wm := wrap_mul hmk (by omega)
      have HMK : Hid (mk = ln * kk) := hmk.symm
      clear hmk
      by_cases h7 : nn = mk
      rotate_left
      · have d5 : ((nn : Int) != (mk : Int)) = true := by simp; omega
        go_wp2
        go_ret
        exact ⟨rfl, Below.refl _ _⟩
      subst h7
      have d5 : ((nn : Int) != (nn : Int)) = false := by simp
      by_cases h8 : most < 1
      · go_wp2
        go_ret
        exact ⟨rfl, Below.refl _ _⟩
      have d6 : decide (most < 1) = false := decide_eq_false (by omega)
      by_cases h9 : tallied < 0
      · go_wp2
        go_ret
        exact ⟨rfl, Below.refl _ _⟩
      have d7 : decide (tallied < 0) = false := decide_eq_false (by omega)
      obtain ⟨t, rfl⟩ : ∃ t : Nat, tallied = (t : Int) := ⟨tallied.toNat, by omega⟩
      go_wp2
      clear d1 d2 d3 d4 d5 d6 d7 wm
      go_loopw [16] (fun i wr => ∃ j : Nat, j ≤ ln ∧ i = .int .i64 j ∧ wr = w ∧ ∀ i', i' < j → t ≤ (Ks i').size) (fun i _ => ln - (intOf i).toNat)
      case atStart => exact ⟨0, Nat.zero_le _, rfl, rfl, fun _ h => absurd h (by omega)⟩
      case round =>
        obtain ⟨j, hj, rfl, hwr, htl⟩ := hrel
        subst hwr
        obtain ⟨w, rfl⟩ : ∃ w : World, w = wr := ⟨_, rfl⟩
        by_cases hlt : j < ln
        · obtain ⟨b, off, rfl, hb, hc⟩ := hK.cell j hlt
          have HSZ : Hid (∀ key, Ks j = key → t ≤ key.size → ∀ i', i' < j + 1 → t ≤ (Ks i').size) := by
            rintro key rfl hk i' hi
            by_cases e : i' = j
            · subst e; exact hk
            · exact htl i' (by omega)
          clear hK hN hL hsz htl
          obtain ⟨key2, hkey⟩ : ∃ key2, Ks j = key2 := ⟨_, rfl⟩
          rw [hkey] at hc
          have HSZ2 : Hid _ := HSZ.out key2 hkey
          clear HSZ hkey
          by_cases hz : key2.size < t
          · have d1 : decide ((key2.size : Int) < (t : Int)) = true := decide_eq_true (by omega)
            go_wp2
            go_ret
            exact ⟨rfl, Below.refl _ _⟩
          · have d1 : decide ((key2.size : Int) < (t : Int)) = false := decide_eq_false (by omega)
            go_wp2
            go_roundw
            case rel => exact ⟨j + 1, by omega, by go_num, by trivial, HSZ2.out (by omega)⟩
            case measure => simp [intOf]; omega
        · obtain rfl : j = ln := by omega
          obtain ⟨n, rfl⟩ : ∃ n : Nat, n = j := ⟨_, rfl⟩
          go_wp2_with fail
          refine (cloneStrings_any ka n kc Ks _ (by omega) hK).mono ?_
          rintro e w1 ⟨ko, kco, rfl, hb1, hK1, hk1⟩
          go_wp2_with fail
          refine (cloneInts_any na nn nc Ns _ (by omega) (hN.next hb1)).mono ?_
          rintro e w2 ⟨no, nco, rfl, hb2, hN2, _⟩
          go_wp2_with fail
          refine (cloneU64_any la n lc Ls _ (by omega) ((hL.next hb1).next hb2)).mono ?_
          rintro e w3 ⟨lo, lco, rfl, hb3, hL3, hl3⟩
          have hK3 := (hK1.next hb2).next hb3
          have hN3 := hN2.next hb3
          have hb03 : Below w.heap.size w w3 := (hb1.trans (hb2.mono hb1.size)).trans (hb3.mono (Nat.le_trans hb1.size hb2.size))
          have HKO : Hid (0 < n → ko = some ⟨w.heap.size, 0, none⟩) := fun h => (hk1 h).1
          have HLO : Hid (0 < n → lo = some ⟨w2.heap.size, 0, none⟩) := fun h => (hl3 h).1
          clear hb1 hb2 hb3 hK1 hN2 hk1 hl3 hK hN hL
          go_upto_region 33 with fail
          refine mid10 _ _ _ _ _ _ _ _ _ _ _ _ _ _ _ _ _ _ _ _ _ _ _ _ _ _ _ _ _ _ _ _ _ _ _ _ _ _ _ _ _ _ _ _ _ _ _ _ _ _ _ _ _ _ _ _ _ _ _ _ _ _ _ _ _ _ _ _ _ _ _ _ _ _ _ _ _ _ _ _ _ _ _ _ _ _ _ _ _ _ _ _ _ _ _ _ _ _ _ _ _ _ _ _ _ _ _ _ _ _ _ _ _ _ _ _ _ _ _ _ _ _ _ _ _ _ _ _ _ _ _ _ _ _ _ _ _ _ _ _ _ _ _ _ _ _ _ _ _ _ _ _ _ _ _ _ _ _ _ _ _ _ _ _ _ _ _ _ _ _ _ _ _ _ _ _ _ _ _ _ _ _ _ _ _ _ _ _ _ _ _ _ _ _ _ _ _ _ _ _ _ _ _ _ _ _ _ _ _ _ _ _ _ _ _ _ _ _ _ _ _ _ _ _ _ _ _ _ _ _ _ _ _ _ _ _ _ _ _ _ _ _ _ _ _ _ _ _ _ _ _ _ _ _ _ _ _ _ _ _ _ _ _ _ _ _ _ _ _ _ _ _ _ _ _ _ _ _ _ _ _ _ _ _ _ _ _ _ _ _ _ _ _ _ _ _ _ _ _ _ _ _ _ _ _ _ _ _ _ _ _ _ _ _ _ _ _ _ _ _ _ _ _ _ _ _ _ _ _ _ _ ko no lo n kco nn nco lco kk t most Ks Ns Ls w w3 _ _ _ (by omega) (by omega) (by omega) HMK (by omega) htl hsz HKO HLO hb03 hK3 hN3 hL3 ?_
          assumption
end Go.Proofs.Qxb6600123a
