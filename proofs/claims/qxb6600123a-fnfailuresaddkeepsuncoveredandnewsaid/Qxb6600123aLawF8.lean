/-
  Seat b6600123a: FnFailuresAddKeepsUncoveredAndNew: the walk.
-/
import Derived.Test.Qxb6600123aMid8
namespace Go.Proofs.Qxb6600123a
open Go.RowKit Go.Deep
set_option linter.unusedVariables false
set_option linter.unusedSimpArgs false
attribute [local go_sem ↓] Go.wp_at_zero Go.wp_at_succ

set_option maxRecDepth 100000 in
set_option maxHeartbeats 4000000 in
theorem walk8 (ka na la aa : Option Addr) (kn kc nn nc ln lc an ac : Nat) (most : Int) (prune : Bool) (key : ByteArray) (tallied limit : Int) (Ks : Nat → ByteArray) (Ns Ls As : Nat → Int) (w : World) (hkn : kn ≤ maxLen) (hnn : nn ≤ maxLen) (hln : ln ≤ maxLen) (hks : key.size ≤ maxLen) (han : an ≤ maxLen)
    (hK : In w.heap.size w ka kn kc (fun i => .string (Ks i))) (hN : In w.heap.size w na nn nc (fun i => .int .i64 (Ns i))) (hL : In w.heap.size w la ln lc (fun i => .int .u64 (Ls i))) (hA : In w.heap.size w aa an ac (fun i => .int .i64 (As i))) :
    Calls Try.prog 8 #[.slice ka kn kc, .slice na nn nc, .slice la ln lc, .int .i64 most, .bool prune, .string key, .int .i64 tallied, .slice aa an ac, .int .u64 limit] w fun e w' => e = .returned (.bool true) ∧ Below w.heap.size w w' := by
  go_enter Try.func8, Try.ntmps8
  go_wp2_with fail
  refine (bytes28 ka kn kc Ks na la aa nn nc ln lc an ac most prune key tallied limit _ hkn hnn hln hks han hK).mono ?_
  rintro e w' ⟨b, rfl, hw⟩
  subst w'
  cases b
  · go_wp2
    go_ret
    exact ⟨rfl, Below.refl _ _⟩
  unfold maxLen at hks
  by_cases h1 : 65536 < kn
  · go_wp2
    go_ret
    exact ⟨rfl, Below.refl _ _⟩
  have d1 : decide ((65536 : Int) < (kn : Int)) = false := decide_eq_false (by omega)
  by_cases h2 : 131072 < nn
  · go_wp2
    go_ret
    exact ⟨rfl, Below.refl _ _⟩
  have d2 : decide ((131072 : Int) < (nn : Int)) = false := decide_eq_false (by omega)
  by_cases h3 : 65536 < ln
  · go_wp2
    go_ret
    exact ⟨rfl, Below.refl _ _⟩
  have d3 : decide ((65536 : Int) < (ln : Int)) = false := decide_eq_false (by omega)
  by_cases h4 : 1048576 < key.size
  · go_wp2
    go_ret
    exact ⟨rfl, Below.refl _ _⟩
  have d4 : decide ((1048576 : Int) < (key.size : Int)) = false := decide_eq_false (by omega)
  by_cases h5 : 65536 < an
  · go_wp2
    go_ret
    exact ⟨rfl, Below.refl _ _⟩
  have d5 : decide ((65536 : Int) < (an : Int)) = false := decide_eq_false (by omega)
  clear hkn hnn hln hks han
  go_wp2
  clear d1 d2 d3 d4 d5
  go_loopw [19, 20] (fun z i wr => ∃ j s : Nat, j ≤ kn ∧ i = .int .i64 j ∧ z = .int .i64 s ∧ s ≤ 3670016 ∧ wr = w ∧ ∀ i', i' < j → (Ks i').size ≤ 1048576) (fun _ i _ => kn - (intOf i).toNat)
  case atStart => exact ⟨0, key.size + 8 * kn + 8 * nn + 8 * ln + 8 * an, Nat.zero_le _, rfl, by go_num, by omega, rfl, fun _ h => absurd h (by omega)⟩
  case round =>
    obtain ⟨j, s, hj, rfl, rfl, hs, rfl, hsz⟩ := hrel
    by_cases hlt : j < kn
    · obtain ⟨b, off, rfl, hb, hc⟩ := hK.cell j hlt
      have HSZ : Hid (∀ key, Ks j = key → key.size ≤ 1048576 → ∀ i', i' < j + 1 → (Ks i').size ≤ 1048576) := by
        rintro key rfl hk i' hi
        by_cases e : i' = j
        · subst e; exact hk
        · exact hsz i' (by omega)
      clear hK hN hL hsz hA
      obtain ⟨key2, hkey⟩ : ∃ key2, Ks j = key2 := ⟨_, rfl⟩
      rw [hkey] at hc
      have HSZ2 : Hid _ := HSZ.out key2 hkey
      clear HSZ hkey
      by_cases hz : 1048576 < key2.size
      · go_wp2
        go_ret
        exact ⟨rfl, Below.refl _ _⟩
      have d2 : decide ((1048576 : Int) < (key2.size : Int)) = false := decide_eq_false (by omega)
      by_cases hz2 : 1048576 < s + key2.size
      · have d3 : decide ((1048576 : Int) < (s : Int) + (key2.size : Int)) = true := decide_eq_true (by omega)
        go_wp2
        go_ret
        exact ⟨rfl, Below.refl _ _⟩
      · have d3 : decide ((1048576 : Int) < (s : Int) + (key2.size : Int)) = false := decide_eq_false (by omega)
        go_wp2
        go_roundw
        case rel => exact ⟨j + 1, s + key2.size, by omega, by go_num, by go_num, by omega, by trivial, HSZ2.out (by omega)⟩
        case measure => simp [intOf]; omega
    · obtain rfl : j = kn := by omega
      obtain ⟨w, rfl⟩ : ∃ w : World, w = wr := ⟨_, rfl⟩
      by_cases hs2 : 1048576 < s
      · go_wp2
        go_ret
        exact ⟨rfl, Below.refl _ _⟩
      have d1 : decide ((1048576 : Int) < (s : Int)) = false := decide_eq_false (by omega)
      by_cases h6 : ln = j
      rotate_left
      · have d2 : ((ln : Int) != (j : Int)) = true := by simp; omega
        go_wp2
        go_ret
        exact ⟨rfl, Below.refl _ _⟩
      subst h6
      have d2 : ((ln : Int) != (ln : Int)) = false := by simp
      go_upto_if 124 with fail
      clear d1 d2
      go_cut [] from 40 (fun w2 => w2 = w ∧ nn = ln * an)
      case first =>
        by_cases h0 : an = 0
        · by_cases h00 : nn = 0
          · go_wp2
            go_meet
            case rel => exact ⟨rfl, by simp [h0, h00]⟩
          · go_wp2
            go_ret
            exact ⟨rfl, Below.refl _ _⟩
        · obtain ⟨r, hr⟩ : ∃ r, nn % an = r := ⟨_, rfl⟩
          obtain ⟨dq, hdq⟩ : ∃ dq, nn / an = dq := ⟨_, rfl⟩
          have hrl : r < an := by rw [← hr]; exact Nat.mod_lt _ (by omega)
          have hdl : dq ≤ nn := by rw [← hdq]; exact Nat.div_le_self _ _
          have HDM : Hid (an * dq + r = nn) := by show an * dq + r = nn; rw [← hdq, ← hr]; exact Nat.div_add_mod nn an
          have m5 : (nn : Int) % (an : Int) = (r : Int) := by rw [← hr]; simp
          have m6 : (nn : Int) / (an : Int) = (dq : Int) := by rw [← hdq]; simp
          have m1 : ((nn : Int)).tmod (an : Int) = (r : Int) := by rw [Int.tmod_eq_emod_of_nonneg (by omega)]; exact m5
          have m3 : ((nn : Int)).tdiv (an : Int) = (dq : Int) := by rw [Int.tdiv_eq_ediv_of_nonneg (by omega)]; exact m6
          have m2 : IntKind.i64.wrap (r : Int) = (r : Int) := by rw [IntKind.wrap_i64]; omega
          have m4 : IntKind.i64.wrap (dq : Int) = (dq : Int) := by rw [IntKind.wrap_i64]; omega
          have hne : ((an : Int) == 0) = false := by simp; omega
          clear hr hdq
          by_cases r0 : r = 0
          · subst r0
            by_cases q0 : dq = ln
            · subst q0
              go_wp2
              go_meet
              case rel => exact ⟨rfl, by have := HDM.out; rw [Nat.mul_comm]; omega⟩
            · have dd : ((dq : Int) != (ln : Int)) = true := by simp; omega
              go_wp2
              go_ret
              exact ⟨rfl, Below.refl _ _⟩
          · have dd : ((r : Int) != 0) = true := by simp; omega
            go_wp2
            go_ret
            exact ⟨rfl, Below.refl _ _⟩
      case rest =>
        obtain ⟨hw2, hnk0⟩ := hcut
        have hnk : Hid (nn = ln * an) := hnk0
        clear hnk0
        subst hw2
        obtain ⟨w, rfl⟩ : ∃ w : World, w = wc := ⟨_, rfl⟩
        by_cases h7 : most < 1
        · go_wp2
          go_ret
          exact ⟨rfl, Below.refl _ _⟩
        have d1 : decide (most < 1) = false := decide_eq_false h7
        by_cases h8 : most < (ln : Int)
        · have d2 : decide (most < (ln : Int)) = true := decide_eq_true h8
          go_wp2
          go_ret
          exact ⟨rfl, Below.refl _ _⟩
        have d2 : decide (most < (ln : Int)) = false := decide_eq_false h8
        by_cases h9 : tallied < 0
        · go_wp2
          go_ret
          exact ⟨rfl, Below.refl _ _⟩
        have d3 : decide (tallied < 0) = false := decide_eq_false h9
        by_cases h10 : (key.size : Int) < tallied
        · have d4 : decide ((key.size : Int) < tallied) = true := decide_eq_true h10
          go_wp2
          go_ret
          exact ⟨rfl, Below.refl _ _⟩
        have d4 : decide ((key.size : Int) < tallied) = false := decide_eq_false h10
        obtain ⟨t, rfl⟩ : ∃ t : Nat, tallied = (t : Int) := ⟨tallied.toNat, by omega⟩
        go_wp2
        clear d1 d2 d3 d4
        go_loopw [23] (fun i wr => ∃ j : Nat, j ≤ ln ∧ i = .int .i64 j ∧ wr = w ∧ ∀ i', i' < j → t ≤ (Ks i').size) (fun i _ => ln - (intOf i).toNat)
        case atStart => exact ⟨0, Nat.zero_le _, rfl, rfl, fun _ h => absurd h (by omega)⟩
        case round =>
          obtain ⟨j, hj, rfl, hwr, htl⟩ := hrel
          subst hwr
          obtain ⟨w, rfl⟩ : ∃ w : World, w = wr := ⟨_, rfl⟩
          by_cases hlt : j < ln
          · obtain ⟨b, off, rfl, hb, hc⟩ := hK.cell j hlt
            have HSZ : Hid (∀ key, Ks j = key → t ≤ key.size → ∀ i', i' < j + 1 → t ≤ (Ks i').size) := by
              rintro key rfl hk i' hi
              by_cases e : i' = j
              · subst e; exact hk
              · exact htl i' (by omega)
            clear hK hN hL hsz hA htl
            obtain ⟨key2, hkey⟩ : ∃ key2, Ks j = key2 := ⟨_, rfl⟩
            rw [hkey] at hc
            have HSZ2 : Hid _ := HSZ.out key2 hkey
            clear HSZ hkey
            by_cases hz : key2.size < t
            · have d1 : decide ((key2.size : Int) < (t : Int)) = true := decide_eq_true (by omega)
              go_wp2
              go_ret
              exact ⟨rfl, Below.refl _ _⟩
            · have d1 : decide ((key2.size : Int) < (t : Int)) = false := decide_eq_false (by omega)
              go_wp2
              go_roundw
              case rel => exact ⟨j + 1, by omega, by go_num, by trivial, HSZ2.out (by omega)⟩
              case measure => simp [intOf]; omega
          · obtain rfl : j = ln := by omega
            obtain ⟨n, rfl⟩ : ∃ n : Nat, n = j := ⟨_, rfl⟩
            go_wp2_with fail
            refine (cloneStrings_any ka n kc Ks _ (by omega) hK).mono ?_
            rintro e w1 ⟨ko, kco, rfl, hb1, hK1, _⟩
            go_wp2_with fail
            refine (cloneInts_any na nn nc Ns _ (by omega) (hN.next hb1)).mono ?_
            rintro e w2 ⟨no, nco, rfl, hb2, hN2, _⟩
            go_wp2_with fail
            refine (cloneU64_any la n lc Ls _ (by omega) ((hL.next hb1).next hb2)).mono ?_
            rintro e w3 ⟨lo, lco, rfl, hb3, hL3, _⟩
            go_wp2_with fail
            refine (cloneInts_any aa an ac As _ (by omega) (((hA.next hb1).next hb2).next hb3)).mono ?_
            rintro e w4 ⟨ao, aco, rfl, hb4, hA4, _⟩
            have hK4 := ((hK1.next hb2).next hb3).next hb4
            have hN4 := (hN2.next hb3).next hb4
            have hL4 := hL3.next hb4
            have hb02 : Below w.heap.size w w2 := hb1.trans (hb2.mono hb1.size)
            have hb03 : Below w.heap.size w w3 := hb02.trans (hb3.mono hb02.size)
            have hb04 : Below w.heap.size w w4 := hb03.trans (hb4.mono hb03.size)
            clear hK hN hL hA hK1 hN2 hL3 hb1 hb2 hb3 hb4 hb02 hb03
            go_wp2_with fail
            refine (cloneStrings_own ko n kco Ks _ (by omega) hK4).mono ?_
            rintro e w5 ⟨ko2, kco2, rfl, hb5, _, oK5, sK5⟩
            go_wp2_with fail
            refine (cloneInts_own no nn nco Ns _ (by omega) (hN4.next hb5)).mono ?_
            rintro e w6 ⟨no2, nco2, rfl, hb6, _, oN6, sN6⟩
            have hb46 : Below w4.heap.size w4 w6 := hb5.trans (hb6.mono hb5.size)
            obtain ⟨f, hf⟩ : ∃ f, sx an Ks Ns Ls = f := ⟨_, rfl⟩
            obtain ⟨nw, hnw⟩ : ∃ nw : Sta, (⟨key, (List.range an).map As, limit⟩ : Sta) = nw := ⟨_, rfl⟩
            have oK6 : w6.ownsRow 0 9 1 (.slice ko2 n kco2) n (keysV (fstS f n)) := own_later (oK5 (keysV (fstS f n)) (by rw [len_keysV, len_fst]) (fun i hi => by rw [← hf]; simp [keysV, fstS, hi, sx])) hb6
            have oN6' : w6.ownsRow 0 3 1 (.slice no2 nn nco2) nn (needV (fstS f n)) := oN6 (needV (fstS f n)) (by rw [← hf]; unfold fstS; rw [needV_range]; simp [hnk.out]) (fun i hi => by
              rw [← hf]; unfold fstS; rw [needV_range, List.getElem?_map, List.getElem?_range (by rw [← hnk.out]; exact hi)]; rfl)
            have sN6' : ∀ b, (Value.slice no2 nn nco2).ownBlock = some b → w4.heap.size ≤ b := fun b hb => Nat.le_trans hb5.size (sN6 b hb)
            have HM : Hid (w6.ownsRow 0 9 1 (.slice ko2 n kco2) n (keysV (fstS f n)) ∧ w6.ownsRow 0 3 1 (.slice no2 nn nco2) nn (needV (fstS f n)) ∧ (∀ b, (Value.slice ko2 n kco2).ownBlock = some b → w4.heap.size ≤ b) ∧ (∀ b, (Value.slice no2 nn nco2).ownBlock = some b → w4.heap.size ≤ b)) := ⟨oK6, oN6', sK5, sN6'⟩
            have HF : Hid (sx an Ks Ns Ls = f) := hf
            have HNW : Hid ((⟨key, (List.range an).map As, limit⟩ : Sta) = nw) := hnw
            clear hf hnw
            clear oK5 sK5 oN6 sN6 oK6 oN6' sN6' hb5 hb6
            have hA6 : In w4.heap.size w6 ao an aco (fun i => .int .i64 (nw.at i)) := (hA4.later hb46).congr (fun i hi => by rw [← HNW.out]; simp [Sta.at, List.getD_eq_getElem?_getD, hi])
            have hK6 := hK4.later hb46
            have hN6 := hN4.later hb46
            have hL6 := hL4.later hb46
            have hs46 := hb46.size
            have hb06 : Below w.heap.size w w6 := hb04.trans (hb46.mono hb04.size)
            have hs04 : Hid (w.heap.size ≤ w4.heap.size) := hb04.size
            clear hA4 hK4 hN4 hL4 hb46 hb04
            go_upto_region 40 with fail
            refine mid8 _ _ _ _ _ _ _ _ _ _ _ _ _ _ _ _ _ _ _ _ _ _ _ _ _ _ _ _ _ _ _ _ _ _ _ _ _ _ _ _ _ _ _ _ _ _ _ _ _ _ _ _ _ _ _ _ _ _ _ _ _ _ _ _ _ _ _ _ _ _ _ _ _ _ _ _ _ _ _ _ _ _ _ _ _ _ _ _ _ _ _ _ _ _ _ _ _ _ _ _ _ _ _ _ _ _ _ _ _ _ _ _ _ _ _ _ _ _ _ _ _ _ _ _ _ _ _ _ _ _ _ _ _ _ _ _ _ _ _ _ _ _ _ _ _ _ _ _ _ _ _ _ _ _ _ _ _ _ _ _ _ _ _ _ _ _ _ _ _ _ _ _ _ _ _ _ _ _ _ _ _ _ _ _ _ _ _ _ _ _ _ _ _ _ _ _ _ _ _ _ _ _ _ _ _ _ _ _ _ _ _ _ _ _ _ _ _ _ _ _ _ _ _ _ _ _ _ _ _ _ _ _ _ _ _ _ _ _ _ _ _ _ _ _ _ _ _ _ _ _ _ _ _ _ _ _ _ _ _ _ _ _ _ _ _ _ _ _ _ _ _ _ _ _ _ _ _ _ _ _ _ _ _ _ _ _ _ _ _ _ _ _ _ _ _ _ _ _ _ _ _ _ _ _ _ _ _ _ _ _ _ _ _ _ _ ko no lo ao ko2 no2 n _ nn _ _ an _ _ _ t most prune key limit Ks Ns Ls f nw w w4 w6 _ (by omega) (by omega) (by omega) hnk (by omega) (by omega) (by omega) htl hsz HF ?_ HM hs46 hs04 hb06 hK6 hN6 hL6 hA6 ?_
            · exact ⟨by rw [← HNW.out], by rw [← HNW.out], by rw [← HNW.out]; simp⟩
            · assumption
end Go.Proofs.Qxb6600123a
