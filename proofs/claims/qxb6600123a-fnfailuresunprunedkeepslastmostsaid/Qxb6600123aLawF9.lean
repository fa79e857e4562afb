/-
  Seat b6600123a: FnFailuresUnprunedKeepsLastMost: the walk.
-/
import Derived.Test.Qxb6600123aFailCalls
import Derived.Test.Qxb6600123aBytes
import Derived.Test.Qxb6600123aLaw9Plain
import Derived.Test.Qxb6600123aReg9c
namespace Go.Proofs.Qxb6600123a
open Go.RowKit Go.Deep
set_option linter.unusedVariables false
set_option linter.unusedSimpArgs false
attribute [local go_sem ↓] Go.wp_at_zero Go.wp_at_succ

theorem In.nilI (B : Nat) (w : World) (V : Nat → Value) : In B w none 0 0 V := ⟨Nat.le_refl _, fun _ => ⟨rfl, rfl⟩, fun i hi => absurd hi (by omega)⟩
/-- An own row, as a slice that can be read. -/
theorem In.of_own {w : World} {e : TypeId} {ao : Option Addr} {m cap : Nat} {xs : List Value} {f : Nat → Value} (h : w.ownsRow 0 e 1 (.slice ao m cap) m xs) (hx : ∀ i, i < m → xs[i]? = some (f i)) : In w.heap.size w ao m cap f := by
  have hn := own_nil h
  refine ⟨hn.1, hn.2.2, fun i hi => ?_⟩
  obtain ⟨g, rfl, hlt, hc⟩ := own_addr h (by omega)
  exact ⟨g, 0, rfl, hlt, by rw [Nat.zero_add, hc i hi]; exact hx i hi⟩
/-- A part of a slice. -/
theorem In.part {B : Nat} {w : World} {a : Option Addr} {n c : Nat} {f : Nat → Value} (h : In B w a n c f) (q k : Nat) (hq : q + k ≤ n) : In B w (if c = q then a else Option.map (fun x => x.add q) a) k (c - q) (fun i => f (q + i)) := by
  have hc := h.le
  refine ⟨by omega, fun hn => ?_, fun i hi => ?_⟩
  · have : a = none := by
      split at hn
      · exact hn
      · simpa using hn
    have := h.nil this
    omega
  · obtain ⟨b, off, rfl, hb, hcell⟩ := h.cell (q + i) (by omega)
    refine ⟨b, off + q, ?_, hb, by rw [Nat.add_assoc]; exact hcell⟩
    rw [if_neg (by omega)]
    simp [Addr.add_lit]

set_option maxRecDepth 100000 in
set_option maxHeartbeats 4000000 in
theorem walk9 (ka na la : Option Addr) (kn kc nn nc ln lc : Nat) (k most : Int) (Ks : Nat → ByteArray) (Ns Ls : Nat → Int) (w : World) (hkn : kn ≤ maxLen) (hnn : nn ≤ maxLen) (hln : ln ≤ maxLen)
    (hK : In w.heap.size w ka kn kc (fun i => .string (Ks i))) (hN : In w.heap.size w na nn nc (fun i => .int .i64 (Ns i))) (hL : In w.heap.size w la ln lc (fun i => .int .u64 (Ls i))) :
    Calls Try.prog 9 #[.slice ka kn kc, .slice na nn nc, .slice la ln lc, .int .i64 k, .int .i64 most] w fun e w' => e = .returned (.bool true) ∧ Below w.heap.size w w' := by
  go_enter Try.func9, Try.ntmps9
  go_wp2_with fail
  refine (bytes37 ka kn kc Ks na la nn nc ln lc k most _ hkn hnn hln hK).mono ?_
  rintro e w' ⟨b, rfl, hw⟩
  subst w'
  cases b
  · go_wp2
    go_ret
    exact ⟨rfl, Below.refl _ _⟩
  by_cases h1 : 1024 < kn
  · go_wp2
    go_ret
    exact ⟨rfl, Below.refl _ _⟩
  have d1 : decide ((1024 : Int) < (kn : Int)) = false := decide_eq_false (by omega)
  by_cases h2 : 131072 < nn
  · go_wp2
    go_ret
    exact ⟨rfl, Below.refl _ _⟩
  have d2 : decide ((131072 : Int) < (nn : Int)) = false := decide_eq_false (by omega)
  by_cases h3 : 1024 < ln
  · go_wp2
    go_ret
    exact ⟨rfl, Below.refl _ _⟩
  have d3 : decide ((1024 : Int) < (ln : Int)) = false := decide_eq_false (by omega)
  clear hkn hnn hln
  go_wp2
  clear d1 d2 d3
  go_loopw [11, 12] (fun z i wr => ∃ j s : Nat, j ≤ kn ∧ i = .int .i64 j ∧ z = .int .i64 s ∧ s ≤ 1064960 ∧ wr = w ∧ ∀ i', i' < j → (Ks i').size ≤ 1048576) (fun _ i _ => kn - (intOf i).toNat)
  case atStart => exact ⟨0, 8 * kn + 8 * nn + 8 * ln, Nat.zero_le _, rfl, by go_num, by omega, rfl, fun _ h => absurd h (by omega)⟩
  case round =>
    obtain ⟨j, s, hj, rfl, rfl, hs, rfl, hsz⟩ := hrel
    by_cases hlt : j < kn
    · obtain ⟨b, off, rfl, hb, hc⟩ := hK.cell j hlt
      have HSZ : Hid (∀ key, Ks j = key → key.size ≤ 1048576 → ∀ i', i' < j + 1 → (Ks i').size ≤ 1048576) := by
        rintro key rfl hk i' hi
        by_cases e : i' = j
        · subst e; exact hk
        · exact hsz i' (by omega)
      clear hK hN hL hsz
      obtain ⟨key, hkey⟩ : ∃ key, Ks j = key := ⟨_, rfl⟩
      rw [hkey] at hc
      have HSZ2 : Hid _ := HSZ.out key hkey
      clear HSZ hkey
      by_cases hz : 1048576 < key.size
      · go_wp2
        go_ret
        exact ⟨rfl, Below.refl _ _⟩
      have d2 : decide ((1048576 : Int) < (key.size : Int)) = false := decide_eq_false (by omega)
      by_cases hz2 : 1048576 < s + key.size
      · have d3 : decide ((1048576 : Int) < (s : Int) + (key.size : Int)) = true := decide_eq_true (by omega)
        go_wp2
        go_ret
        exact ⟨rfl, Below.refl _ _⟩
      · have d3 : decide ((1048576 : Int) < (s : Int) + (key.size : Int)) = false := decide_eq_false (by omega)
        go_wp2
        go_roundw
        case rel => exact ⟨j + 1, s + key.size, by omega, by go_num, by go_num, by omega, by trivial, HSZ2.out (by omega)⟩
        case measure => simp [intOf]; omega
    · obtain rfl : j = kn := by omega
      obtain ⟨w, rfl⟩ : ∃ w : World, w = wr := ⟨_, rfl⟩
      by_cases hs2 : 1048576 < s
      · go_wp2
        go_ret
        exact ⟨rfl, Below.refl _ _⟩
      have d1 : decide ((1048576 : Int) < (s : Int)) = false := decide_eq_false (by omega)
      by_cases h4 : ln = j
      rotate_left
      · have d2 : ((ln : Int) != (j : Int)) = true := by simp; omega
        go_wp2
        go_ret
        exact ⟨rfl, Below.refl _ _⟩
      subst h4
      have d2 : ((ln : Int) != (ln : Int)) = false := by simp
      by_cases h5 : k < 0
      · go_wp2
        go_ret
        exact ⟨rfl, Below.refl _ _⟩
      have d3 : decide (k < 0) = false := decide_eq_false (by omega)
      by_cases h6 : 65536 < k
      · go_wp2
        go_ret
        exact ⟨rfl, Below.refl _ _⟩
      have d4 : decide (65536 < k) = false := decide_eq_false (by omega)
      obtain ⟨kk, rfl⟩ : ∃ kk : Nat, k = (kk : Int) := ⟨k.toNat, by omega⟩
      obtain ⟨mk, hmk⟩ : ∃ mk, ln * kk = mk := ⟨_, rfl⟩
      have hmk2 : mk ≤ 67108864 := by
        rw [← hmk]
        exact Nat.mul_le_mul (show ln ≤ 1024 by omega) (show kk ≤ 65536 by omega)
      have wm := wrap_mul hmk (by omega)
      by_cases h7 : nn = mk
      rotate_left
      · have d5 : ((nn : Int) != (mk : Int)) = true := by simp; omega
        go_wp2
        go_ret
        exact ⟨rfl, Below.refl _ _⟩
      subst h7
      have d5 : ((nn : Int) != (nn : Int)) = false := by simp
      by_cases h8 : most < 1
      · go_wp2
        go_ret
        exact ⟨rfl, Below.refl _ _⟩
      have d6 : decide (most < 1) = false := decide_eq_false (by omega)
      go_wp2_with fail
      refine (cloneStrings_any ka ln kc Ks _ (by omega) hK).mono ?_
      rintro e w1 ⟨ko, kco, rfl, hb1, hK1, hk1⟩
      go_wp2_with fail
      refine (cloneInts_any na nn nc Ns _ (by omega) (hN.next hb1)).mono ?_
      rintro e w2 ⟨no, nco, rfl, hb2, hN2, _⟩
      go_wp2_with fail
      refine (cloneU64_any la ln lc Ls _ (by omega) ((hL.next hb1).next hb2)).mono ?_
      rintro e w3 ⟨lo, lco, rfl, hb3, hL3, hl3⟩
      have hK3 := (hK1.next hb2).next hb3
      have hN3 := hN2.next hb3
      have hb03 : Below w.heap.size w w3 := (hb1.trans (hb2.mono hb1.size)).trans (hb3.mono (Nat.le_trans hb1.size hb2.size))
      have HKO : Hid (0 < ln → ko = some ⟨w.heap.size, 0, none⟩) := fun h => (hk1 h).1
      have HLO : Hid (0 < ln → lo = some ⟨w2.heap.size, 0, none⟩) := fun h => (hl3 h).1
      clear hb1 hb2 hb3 hK1 hN2 hk1 hl3 hK hN hL
      go_wp2_with fail
      refine (zznew_any none none none 0 0 0 0 0 0 (fun _ => 0) most false _ (by omega) (In.nilI _ _ _)).mono ?_
      rintro e w4 ⟨P, rfl, hP, hb4, hrow, hlim⟩
      have fa0 : FA (fun b => w3.heap.size ≤ b) w4 P most false (.slice none 0 0) (.slice none 0 0) (.slice (some ⟨w3.heap.size, 0, none⟩) 0 0) [] [] [] :=
        ⟨hrow, World.ownsRow_nil _ _ _ _, World.ownsRow_nil _ _ _ _, own_of_row hlim (by decide) [] rfl (fun i hi => absurd hi (by omega)), Nat.le_of_lt hP, (fun b hb => by cases hb), (fun b hb => by cases hb), (fun b hb => by cases hb; exact Nat.le_refl _)⟩
      have hK4 := hK3.later hb4
      have hN4 := hN3.later hb4
      have hL4 := hL3.later hb4
      have hsz4 := hb4.size
      have hsz0 : Hid (w.heap.size ≤ w3.heap.size) := hb03.size
      have hb04 : Below w.heap.size w w4 := hb03.trans (hb4.mono hb03.size)
      clear hK3 hN3 hL3 hrow hlim hb03 hb4
      go_wp2
      clear d1 d2 d3 d4 d5 d6 wm
      go_loopw [15] (fun i wr => ∃ (j : Nat) (aK aN aM : Option Addr) (cK cN cM : Nat), j ≤ ln ∧ i = .int .i64 j ∧
          FA (fun b => w3.heap.size ≤ b) wr P most false (.slice aK (stAt most false 0 kk (sx kk Ks Ns Ls) j).length cK) (.slice aN ((stAt most false 0 kk (sx kk Ks Ns Ls) j).length * kk) cN) (.slice aM (stAt most false 0 kk (sx kk Ks Ns Ls) j).length cM)
            (keysV (stAt most false 0 kk (sx kk Ks Ns Ls) j)) (needV (stAt most false 0 kk (sx kk Ks Ns Ls) j)) (limsV (stAt most false 0 kk (sx kk Ks Ns Ls) j)) ∧ Fr (fun b => w3.heap.size ≤ b) w4 wr) (fun i _ => ln - (intOf i).toNat)
      case atStart => exact ⟨0, none, none, _, 0, 0, 0, Nat.zero_le _, rfl, by simpa [stAt, keysV, needV, limsV] using fa0, Fr.refl _ _⟩
      case round =>
        obtain ⟨j, aK, aN, aM, cK, cN, cM, hj, rfl, hfa, hfr⟩ := hrel
        have hbr := hfr.below (B := w3.heap.size) (fun b h => h)
        by_cases hlt : j < ln
        · obtain rfl := HKO.out (by omega)
          obtain rfl := HLO.out (by omega)
          obtain ⟨gK, oK, eK, _, cellk⟩ := (hK4.later hbr).cell j hlt
          cases eK
          rw [Nat.zero_add] at cellk
          obtain ⟨gL, oL, eL, _, celll⟩ := (hL4.later hbr).cell j hlt
          cases eL
          rw [Nat.zero_add] at celll
          have hS : ∀ b, wr.drew.heap.size ≤ b → w3.heap.size ≤ b := fun b hb => Nat.le_trans (Nat.le_trans hsz4 hfr.size) hb
          have hlen := stAt_len most false 0 kk (sx kk Ks Ns Ls) j
          obtain ⟨jk, hjk⟩ : ∃ jk, j * kk = jk := ⟨_, rfl⟩
          obtain ⟨jk1, hjk1⟩ : ∃ jk1, (j + 1) * kk = jk1 := ⟨_, rfl⟩
          have hjs : jk1 = jk + kk := by rw [← hjk1, ← hjk, Nat.add_mul, Nat.one_mul]
          have hjn : jk1 ≤ nn := by rw [← hjk1, ← hmk]; exact Nat.mul_le_mul_right kk hlt
          have hlk : (stAt most false 0 kk (sx kk Ks Ns Ls) j).length * kk ≤ jk := by rw [← hjk]; exact Nat.mul_le_mul_right kk hlen
          have hnd : In w3.heap.size wr.drew (if nco = jk then no else Option.map (fun x => x.add jk) no) kk (nco - jk) (fun i => .int .i64 ((sx kk Ks Ns Ls j).at i)) :=
            ((hN4.later (hfr.drew.below (B := w3.heap.size) (fun b h => h))).part jk kk (by omega)).congr (fun i hi => by rw [sx_at _ _ _ _ _ _ hi, hjk])
          have hcall0 := zzadd_any (fun b => w3.heap.size ≤ b) w3.heap.size P most false kk 0 (stAt most false 0 kk (sx kk Ks Ns Ls) j) (sx kk Ks Ns Ls j) aK aN aM cK cN cM _ (nco - jk) wr.drew hS (fun b h => h) (hfa.heap rfl) (wid_stAt Ks Ns Ls j) (sx_len ..) hnd (by omega) (by omega) (by omega) (by omega) (Nat.zero_le _)
            (fun s hs => by obtain ⟨i, hi, rfl⟩ := stAt_mem hs; exact ⟨Nat.zero_le _, hsz i (by omega)⟩) (hsz j hlt)
          rw [costS_false] at hcall0
          have hGS : ∀ w', (∃ aK' aN' aM' cK' cN' cM', FA (fun b => w3.heap.size ≤ b) w' P most false (.slice aK' (stAt most false 0 kk (sx kk Ks Ns Ls) (j + 1)).length cK') (.slice aN' ((stAt most false 0 kk (sx kk Ks Ns Ls) (j + 1)).length * kk) cN') (.slice aM' (stAt most false 0 kk (sx kk Ks Ns Ls) (j + 1)).length cM')
              (keysV (stAt most false 0 kk (sx kk Ks Ns Ls) (j + 1))) (needV (stAt most false 0 kk (sx kk Ks Ns Ls) (j + 1))) (limsV (stAt most false 0 kk (sx kk Ks Ns Ls) (j + 1))) ∧ Fr (fun b => w3.heap.size ≤ b) wr.drew w') →
              w'.cell? ⟨w.heap.size, j, none⟩ = some (.string (Ks j)) ∧ w'.cell? ⟨w2.heap.size, j, none⟩ = some (.int .u64 (Ls j)) := by
            rintro w' ⟨_, _, _, _, _, _, _, r⟩
            have hb := r.below (B := w3.heap.size) (fun b h => h)
            exact ⟨(hb.cell (p := ⟨w.heap.size, j, none⟩) (by assumption)).trans cellk, (hb.cell (p := ⟨w2.heap.size, j, none⟩) (by assumption)).trans celll⟩
          have hcn := hN4.le
          have wr1 := wrap_mul hjk (by omega)
          have wr2 : IntKind.i64.wrap (((j : Int) + 1) * (kk : Int)) = (jk1 : Int) := wrap_mul hjk1 (by omega)
          have wr3 : IntKind.i64.wrap ((j : Int) + 1) = (j : Int) + 1 := by rw [IntKind.wrap_i64]; omega
          go_upto_region 32 with fail
          refine reg9c _ _ _ _ _ _ _ _ _ _ _ _ _ _ _ _ _ _ _ _ _ _ _ _ _ _ _ _ _ _ _ _ _ _ _ _ _ _ _ _ _ _ _ _ _ _ _ _ _ _ _ _ _ _ _ _ _ _ _ _ _ _ _ _ _ _ _ _ _ _ _ _ _ _ _ _ _ _ _ _ _ _ _ _ _ _ _ _ _ _ _ _ _ _ _ _ _ _ _ _ _ _ _ _ _ _ _ _ _ _ _ _ _ _ _ _ _ _ _ _ _ _ _ _ _ _ _ _ _ _ _ _ _ _ _ _ _ _ _ _ _ _ _ _ _ _ _ _ _ _ _ _ _ _ _ _ _ _ _ _ _ _ _ _ _ _ _ _ _ _ _ _ _ _ _ _ _ _ _ _ _ _ _ _ _ _ _ _ _ _ _ _ _ _ _ _ _ _ _ _ _ _ _ P w.heap.size w2.heap.size j 0 kk jk jk1 ln nn kco nco lco no (Ks j) (Ls j) 0 _ wr _ _ cellk celll hcall0 hGS hlt (by omega) (by omega) (by omega) (by omega) wr1 wr2 wr3 ?_
          intro v0 v1 v2 v3 v4 v5 v6 v7 v8 v9 v10 v11 v12 v13 v14 v15 v16 v17 v18 w5 hG
          obtain ⟨aK', aN', aM', cK', cN', cM', f5, r5⟩ := hG
          have hlc := (last_cells most (by omega) 0 kk Ks Ns Ls (j + 1) _ rfl).1
          have c0 : w5.cell? ⟨P, 0, none⟩ = some (.slice aK' (stAt most false 0 kk (sx kk Ks Ns Ls) (j + 1)).length cK') := f5.pool.cell (by omega)
          have HF : Hid _ := f5
          have HR : Hid _ := hfr.drew.trans r5
          obtain ⟨l1, hl1⟩ : ∃ l1, (stAt most false 0 kk (sx kk Ks Ns Ls) (j + 1)).length = l1 := ⟨_, rfl⟩
          rw [hl1] at c0 hlc
          clear hl1 f5 r5 hcall0 hGS hnd hfa hfr hbr hS cellk celll hK4 hN4 hL4 hb04 wr1 wr2
          by_cases hw : most < (j : Int) + 1
          · have d1 : decide (most < (j : Int) + 1) = true := decide_eq_true hw
            have d2 : ((l1 : Int) != most) = false := by simp; omega
            go_wp2_with fail
            refine (zzkeys_any P _ _ aK' l1 cK' rfl c0).mono ?_
            rintro e w' ⟨rfl, hw'⟩
            subst w'
            go_wp2
            go_roundw
            case rel => exact ⟨j + 1, aK', aN', aM', cK', cN', cM', by omega, by go_num, HF.out, HR.out⟩
            case measure => simp [intOf]; omega
          · have d1 : decide (most < (j : Int) + 1) = false := decide_eq_false hw
            have d2 : ((l1 : Int) != (j : Int) + 1) = false := by simp; omega
            go_wp2_with fail
            refine (zzkeys_any P _ _ aK' l1 cK' rfl c0).mono ?_
            rintro e w' ⟨rfl, hw'⟩
            subst w'
            go_wp2
            go_roundw
            case rel => exact ⟨j + 1, aK', aN', aM', cK', cN', cM', by omega, by go_num, HF.out, HR.out⟩
            case measure => simp [intOf]; omega
        · obtain rfl : j = ln := by omega
          obtain ⟨q, hq⟩ : ∃ q, j - most.toNat = q := ⟨_, rfl⟩
          obtain ⟨hl, hkc, hlc, hnc⟩ := last_cells most (by omega) 0 kk Ks Ns Ls j q hq
          obtain ⟨mm, hmm⟩ : ∃ mm, j - q = mm := ⟨_, rfl⟩
          rw [hmm] at hl hkc hlc hnc
          have oK := hfa.keys
          rw [len_keysV, hl] at oK
          have oN := hfa.need
          rw [len_needV (wid_stAt Ks Ns Ls j), hl] at oN
          have oM := hfa.lims
          rw [len_limsV, hl] at oM
          have iK : In wr.heap.size wr aK mm cK (fun i => .string (Ks (q + i))) := In.of_own oK hkc
          have iN : In wr.heap.size wr aN (mm * kk) cN (fun x => .int .i64 (Ns (q * kk + x))) := In.of_own oN hnc
          have iM : In wr.heap.size wr aM mm cM (fun i => .int .u64 (Ls (q + i))) := In.of_own oM hlc
          rw [hl] at hfa
          have c0 : wr.cell? ⟨P, 0, none⟩ = some (.slice aK mm cK) := hfa.pool.cell (by omega)
          have c1 : wr.cell? ⟨P, 1, none⟩ = some (.slice aN (mm * kk) cN) := hfa.pool.cell (by omega)
          have c2 : wr.cell? ⟨P, 2, none⟩ = some (.slice aM mm cM) := hfa.pool.cell (by omega)
          have hPl := hfa.pool.lt
          have hKr := hK4.later hbr
          have hNr := hN4.later hbr
          have hLr := hL4.later hbr
          have hszr := Nat.le_trans hsz4 hfr.size
          have hb0r : Below w.heap.size w wr := hb04.trans (hbr.mono hsz0.out)
          clear oK oN oM hfa hkc hlc hnc hl hK4 hN4 hL4 hb04 hbr hfr hsz
          go_upto_if 146 with fail
          go_cut [18] from 24 (fun m w2 => m = .int .i64 (mm : Nat) ∧ w2 = wr)
          case first =>
            by_cases hw : most < (j : Int)
            · have d1 : decide (most < (j : Int)) = true := decide_eq_true hw
              have HM : Hid (most = (mm : Int)) := by show most = (mm : Int); omega
              clear hq hmm
              go_wp2
              go_meet
              case rel => exact ⟨by rw [HM.out], rfl⟩
            · have d1 : decide (most < (j : Int)) = false := decide_eq_false hw
              have HM : Hid (j = mm) := by show j = mm; omega
              clear hq hmm
              go_wp2
              go_meet
              case rel => exact ⟨by rw [HM.out], rfl⟩
          case rest =>
            obtain ⟨rfl, rfl⟩ := hcut
            obtain ⟨mmk, hmmk⟩ : ∃ mmk, mm * kk = mmk := ⟨_, rfl⟩
            rw [hmmk] at iN c1
            have hmb : mmk ≤ nn := by rw [← hmmk, ← hmk]; exact Nat.mul_le_mul_right kk (by omega)
            have wm := wrap_mul hmmk (by omega)
            have HQK : Hid (∀ i, i < mm → q * kk + i * kk = (q + i) * kk ∧ (q + i) * kk + kk ≤ nn ∧ i * kk + kk ≤ mmk) := by
              intro i hi
              refine ⟨(Nat.add_mul ..).symm, ?_, ?_⟩
              · have := Nat.mul_le_mul_right kk (show q + i + 1 ≤ j by omega)
                rw [hmk, Nat.add_mul (q + i), Nat.one_mul] at this
                exact this
              · have := Nat.mul_le_mul_right kk (show i + 1 ≤ mm from hi)
                rw [hmmk, Nat.add_mul, Nat.one_mul] at this
                exact this
            clear hmk hmmk
            go_wp2_with fail
            refine (zzkeys_any P _ _ aK mm cK rfl c0).mono ?_
            rintro e w' ⟨rfl, hw'⟩
            subst w'
            go_wp2_with fail
            refine (zzneed_any P _ _ aN mmk cN rfl c1).mono ?_
            rintro e w' ⟨rfl, hw'⟩
            subst w'
            go_wp2_with fail
            refine (zzlimits_any P aM mm cM (fun i => Ls (q + i)) _ (by omega) hPl c2 iM).mono ?_
            rintro e w6 ⟨rfl, hb6, hrow6⟩
            have iK6 := iK.next hb6
            have iN6 := iN.next hb6
            have hK6 := hKr.later (hb6.mono hszr)
            have hN6 := hNr.later (hb6.mono hszr)
            have hL6 := hLr.later (hb6.mono hszr)
            have hb06 : Below w.heap.size w w6 := hb0r.trans (hb6.mono hb0r.size)
            clear iK iN iM hKr hNr hLr hb6 c0 c1 c2 hPl hb0r
            go_wp2
            go_loopw [22] (fun i wx => ∃ x d : Nat, x ≤ mm ∧ i = .int .i64 x ∧ wx = w6.drewN d) (fun i _ => mm - (intOf i).toNat)
            case atStart => exact ⟨0, 0, Nat.zero_le _, rfl, rfl⟩
            case round =>
              obtain ⟨x, d, hx, rfl, rfl⟩ := hrel
              by_cases hxl : x < mm
              · obtain ⟨g1, o1, rfl, _, cA⟩ := iK6.cell x hxl
                obtain ⟨g2, o2, rfl, _, cB⟩ := hK6.cell (q + x) (by omega)
                obtain ⟨g3, o3, rfl, _, cC⟩ := hL6.cell (q + x) (by omega)
                have cD : w6.cell? ⟨wc.heap.size, x, none⟩ = some (.int .u64 (Ls (q + x))) := hrow6.cell hxl
                have e1 : (j : Int) - (mm : Int) = (q : Int) := by omega
                obtain ⟨hk1, hk2, hk3⟩ := HQK.out x hxl
                have HS : Hid (sameB (fun r => Ns (q * kk + (x * kk + r))) (fun r => Ns ((q + x) * kk + r)) kk = true) := by
                  refine (sameB_iff _ _ _).2 (fun r hr => ?_)
                  show Ns (q * kk + (x * kk + r)) = Ns ((q + x) * kk + r)
                  rw [← hk1, Nat.add_assoc]
                have hi1 : (x : Int) < (mm : Int) := by omega
                have hi2 : (q : Int) + (x : Int) < (j : Int) := by omega
                clear hk1 HQK
                go_wp2_with fail
                go_quiet (fail)
                go_wp2_with fail
                refine Calls.mono (same_any aN no mmk cN nn nco x (q + x) kk (x * kk) ((q + x) * kk) (fun x => Ns (q * kk + x)) Ns w6.heap.size w3.heap.size _ rfl rfl (by omega) (by omega) (by omega) (by omega) ⟨iN6.le, iN6.nil, iN6.cell⟩ ⟨hN6.le, hN6.nil, hN6.cell⟩) ?_
                rintro e w' ⟨rfl, d2, rfl⟩
                have hs := HS.out
                rw [hs]
                go_wp2
                go_roundw
                case rel => exact ⟨x + 1, _, by omega, by go_num, rfl⟩
                case measure => simp [intOf]; omega
              · go_wp2
                go_ret
                exact ⟨rfl, below_drewN hb06 _⟩
end Go.Proofs.Qxb6600123a
