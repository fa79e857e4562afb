/-
  Seat b6601227a: contracts of the scanner's done and multilineString.
-/
import Derived.Test.Qxb6601227aRows
import Derived.WalkKit
import Derived.RegionTactic
import Derived.ChangeAlike
import Derived.BigRegion
import Derived.Deep.QuietTactic
import Derived.BigQuiet
namespace Go.Proofs.Qxb6601227a
open Go.RowKit
set_option linter.unusedVariables false
set_option linter.unusedSimpArgs false

/-- The i-th byte; 256 behind the end. -/
def byt (s : ByteArray) (i : Nat) : Nat := if h : i < s.size then s[i].toNat else 256
theorem byt_in {s : ByteArray} {i : Nat} (h : i < s.size) : s[i].toNat = byt s i := by simp [byt, h]

/-- Where the scanner may stop: at the end, or behind three to five quotes of a run. -/
def Stop (s : ByteArray) (pos r : Nat) : Prop :=
  r = s.size ∨ ∃ p run, pos + 3 ≤ p ∧ p + 3 ≤ run ∧ run ≤ s.size ∧ (∀ i, p ≤ i → i < run → byt s i = byt s pos) ∧ (run = s.size ∨ byt s run ≠ byt s pos) ∧ r = p + min (run - p) 5

/-- Where the scanner stands, in memory. -/
def posW (P : Nat) (w : World) : Nat := (intOf ((w.cell? ⟨P, 1, none⟩).getD (.int .i64 0))).toNat

structure Sc (W : World) (P : Nat) (s : ByteArray) (p : Nat) (w : World) : Prop where
  text : w.cell? ⟨P, 0, none⟩ = some (.string s)
  pos : w.cell? ⟨P, 1, none⟩ = some (.int .i64 (p : Nat))
  free : w.frozen? ⟨P, 1, none⟩ = false
  grown : Grown W w

theorem posW_eq {W : World} {P : Nat} {s : ByteArray} {p : Nat} {w : World} (h : Sc W P s p w) : posW P w = p := by
  simp [posW, h.pos, intOf]

theorem done_any (P : Nat) (s : ByteArray) (p : Nat) (w : World) (hs : s.size ≤ 1048576) (c0 : w.cell? ⟨P, 0, none⟩ = some (.string s)) (c1 : w.cell? ⟨P, 1, none⟩ = some (.int .i64 (p : Nat))) :
    Calls Try.prog 15 #[.pointer (some ⟨P, 0, none⟩)] w fun e w' => e = .returned (.bool (decide (s.size ≤ p))) ∧ ∃ d, w' = w.drewN d := by
  go_enter Try.func15, Try.ntmps15
  go_wp2
  go_quiet (fail)
  go_wp2
  go_ret
  exact ⟨rfl, _, rfl⟩
theorem done_no (P : Nat) (s : ByteArray) (p : Nat) (w : World) (hs : s.size ≤ 1048576) (c0 : w.cell? ⟨P, 0, none⟩ = some (.string s)) (c1 : w.cell? ⟨P, 1, none⟩ = some (.int .i64 (p : Nat))) (h : p < s.size) :
    Calls Try.prog 15 #[.pointer (some ⟨P, 0, none⟩)] w fun e w' => e = .returned (.bool false) ∧ ∃ d, w' = w.drewN d := by
  have H := done_any P s p w hs c0 c1
  rw [decide_eq_false (by omega)] at H
  exact H
theorem done_yes (P : Nat) (s : ByteArray) (p : Nat) (w : World) (hs : s.size ≤ 1048576) (c0 : w.cell? ⟨P, 0, none⟩ = some (.string s)) (c1 : w.cell? ⟨P, 1, none⟩ = some (.int .i64 (p : Nat))) (h : s.size ≤ p) :
    Calls Try.prog 15 #[.pointer (some ⟨P, 0, none⟩)] w fun e w' => e = .returned (.bool true) ∧ ∃ d, w' = w.drewN d := by
  have H := done_any P s p w hs c0 c1
  rw [decide_eq_true (by omega)] at H
  exact H

theorem Sc.drewN {W : World} {P : Nat} {s : ByteArray} {p : Nat} {w : World} (h : Sc W P s p w) (n : Nat) : Sc W P s p (w.drewN n) := ⟨h.text, h.pos, h.free, h.grown⟩
theorem Sc.drew {W : World} {P : Nat} {s : ByteArray} {p : Nat} {w : World} (h : Sc W P s p w) : Sc W P s p w.drew := ⟨h.text, h.pos, h.free, h.grown⟩
theorem Sc.set {W : World} {P : Nat} {s : ByteArray} {p : Nat} {w : World} (h : Sc W P s p w) (hP : W.heap.size ≤ P) (q : Nat) : Sc W P s q (w.setCell ⟨P, 1, none⟩ (.int .i64 (q : Nat))) :=
  ⟨(World.cell?_setCell_other _ _ _ _ (by simp)).trans h.text, World.cell?_setCell_same _ _ _ h.pos, (World.frozen?_setCell _ _ _ _).trans h.free, h.grown.setCell hP _⟩
theorem Sc.set' {W : World} {P : Nat} {s : ByteArray} {p : Nat} {w : World} (h : Sc W P s p w) (hP : W.heap.size ≤ P) (q : Nat) (v : Int) (e : v = (q : Nat)) : Sc W P s q (w.setCell ⟨P, 1, none⟩ (.int .i64 v)) := by
  subst e
  exact h.set hP q

set_option maxRecDepth 100000 in
set_option maxHeartbeats 1600000 in
theorem multi_any (W : World) (P : Nat) (s : ByteArray) (pos : Nat) (w : World) (hs : s.size ≤ 1048576) (hp : pos < s.size) (hP : W.heap.size ≤ P) (hsc : Sc W P s pos w) :
    Calls Try.prog 13 #[.pointer (some ⟨P, 0, none⟩)] w fun e w' => e = .returned (.tuple #[]) ∧ ∃ r : Nat, Stop s pos r ∧ Sc W P s r w' := by
  obtain ⟨qb, hqb⟩ : ∃ qb, byt s pos = qb := ⟨_, rfl⟩
  have hq : s[pos].toNat = qb := (byt_in hp).trans hqb
  have HQB : Hid (byt s pos = qb) := hqb
  clear hqb
  have HSC : Hid _ := fun n => (hsc.drewN n).set' hP (pos + 3) ((pos : Int) + 3) (by omega)
  have c0 := hsc.text
  have c1 := hsc.pos
  have f1 := hsc.free
  clear hsc
  go_enter Try.func13, Try.ntmps13
  go_wp2
  go_quiet (fail)
  go_wp2
  have HS2 : Hid (Sc W P s (pos + 3) ((w.drewN nq).setCell ⟨P, 1, none⟩ (.int .i64 ((pos : Int) + 3)))) := HSC.out nq
  clear HSC c0 c1 f1 hq
  generalize (w.drewN nq).setCell ⟨P, 1, none⟩ (.int .i64 ((pos : Int) + 3)) = w2 at HS2 ⊢
  go_loopw [] (fun wr => ∃ p : Nat, pos + 3 ≤ p ∧ p ≤ s.size + 3 ∧ Sc W P s p wr) (fun wr => s.size + 3 - posW P wr)
  case atStart => exact ⟨pos + 3, Nat.le_refl _, by omega, HS2.out⟩
  case round =>
    obtain ⟨p, hp1, hp2, hsc⟩ := hrel
    have hpw := posW_eq hsc
    have HPW : Hid (posW P wr = p) := hpw
    clear hpw
    have c0 := hsc.text
    have c1 := hsc.pos
    have f1 := hsc.free
    have HC : Hid (Sc W P s p wr) := hsc
    clear hsc
    by_cases hlt : p < s.size
    · go_wp2_with fail
      refine (done_no P s p _ hs c0 c1 hlt).mono ?_
      rintro e w' ⟨rfl, d, rfl⟩
      have HC3 : Hid (Sc W P s p (wr.drewN d)) := HC.out.drewN d
      have c0' : (wr.drewN d).cell? ⟨P, 0, none⟩ = some (.string s) := c0
      have c1' : (wr.drewN d).cell? ⟨P, 1, none⟩ = some (.int .i64 (p : Nat)) := c1
      have f1' : (wr.drewN d).frozen? ⟨P, 1, none⟩ = false := f1
      clear c0 c1 f1 HC
      generalize wr.drewN d = w3 at c0' c1' f1' HC3 ⊢
      obtain ⟨cb, hcb⟩ : ∃ cb, byt s p = cb := ⟨_, rfl⟩
      have hc : s[p].toNat = cb := (byt_in hlt).trans hcb
      have HCB : Hid (byt s p = cb) := hcb
      clear hcb
      go_wp2_with fail
      go_quiet (fail)
      have HC4 : Hid (Sc W P s p (w3.drewN nq)) := HC3.out.drewN nq
      have c0 : (w3.drewN nq).cell? ⟨P, 0, none⟩ = some (.string s) := c0'
      have c1 : (w3.drewN nq).cell? ⟨P, 1, none⟩ = some (.int .i64 (p : Nat)) := c1'
      have f1 : (w3.drewN nq).frozen? ⟨P, 1, none⟩ = false := f1'
      clear c0' c1' f1' HC3
      generalize w3.drewN nq = w4 at c0 c1 f1 HC4 ⊢
      have HC3 := HC4
      clear HC4
      by_cases h92 : cb = 92
      · by_cases h34 : qb = 34
        · have t1 : ((cb : Int) == 92) = true := by simp; omega
          have t2 : ((qb : Int) == 34) = true := by simp; omega
          clear h92 h34
          have HN : Hid _ := HC3.out.set' hP (p + 2) ((p : Int) + 2) (by omega)
          go_wp2
          go_roundw
          case rel => exact ⟨p + 2, by omega, by omega, HN.out⟩
          case measure => rw [posW_eq HN.out, HPW.out]; omega
        · have t1 : ((cb : Int) == 92) = true := by simp; omega
          have t2 : ((qb : Int) == 34) = false := by simp; omega
          clear h92 h34
          by_cases hB : cb = qb
          · have t3 : ((cb : Int) == (qb : Int)) = true := by simp [hB]
            have HB : Hid (byt s p = byt s pos) := by show byt s p = byt s pos; rw [HCB.out, HQB.out, hB]
            clear hB
            go_wp2
            go_loop [4] (fun r => ∃ rn : Nat, r = .int .i64 (rn : Nat) ∧ p ≤ rn ∧ rn ≤ s.size ∧ ∀ i, p ≤ i → i < rn → byt s i = byt s pos) (fun r => s.size - (intOf r).toNat)
            case atStart => exact ⟨p, rfl, Nat.le_refl _, by omega, fun i h1 h2 => absurd h2 (by omega)⟩
            case round =>
              obtain ⟨rn, rfl, hr1, hr2, hall⟩ := hrel
              have HALL : Hid _ := hall
              clear hall
              by_cases hr : rn < s.size
              · obtain ⟨rb, hrb⟩ : ∃ rb, byt s rn = rb := ⟨_, rfl⟩
                have hrc : s[rn].toNat = rb := (byt_in hr).trans hrb
                have HRB : Hid (byt s rn = rb) := hrb
                clear hrb
                by_cases hE : rb = qb
                · have t4 : ((rb : Int) == (qb : Int)) = true := by simp [hE]
                  have HA2 : Hid (∀ i, p ≤ i → i < rn + 1 → byt s i = byt s pos) := by
                    intro i h1 h2
                    by_cases e : i = rn
                    · subst e; rw [HRB.out, HQB.out, hE]
                    · exact HALL.out i h1 (by omega)
                  clear hE
                  go_wp2
                  go_round
                  case rel => exact ⟨rn + 1, by go_num, by omega, by omega, HA2.out⟩
                  case measure => simp [intOf]; omega
                · have t4 : ((rb : Int) == (qb : Int)) = false := by simp; omega
                  have HE : Hid (rn = s.size ∨ byt s rn ≠ byt s pos) := .inr (by rw [HRB.out, HQB.out]; exact hE)
                  clear hE
                  have hgt : p < rn := by
                    rcases Nat.lt_or_ge p rn with h | h
                    · exact h
                    · obtain rfl : rn = p := by omega
                      rcases HE.out with h | h
                      · omega
                      · exact absurd HB.out h
                  by_cases h3 : p + 3 ≤ rn
                  · have i5 : (3 : Int) ≤ (rn : Int) - (p : Int) := by omega
                    have HT : Hid (Stop s pos (p + min (rn - p) 5)) := .inr ⟨p, rn, by omega, h3, by omega, HALL.out, HE.out, rfl⟩
                    go_wp2
                    go_region
                    go_wp2
                    all_goals
                      refine bodyPost_ret (results_none rfl _ _ _) rfl ?_
                      exact ⟨rfl, _, HT.out, (HC3.out.set' hP (p + min (rn - p) 5) _ (by first | omega | (split <;> omega))).drew⟩
                  · have i5 : ¬ (3 : Int) ≤ (rn : Int) - (p : Int) := by omega
                    have HN : Hid _ := HC3.out.set hP rn
                    go_wp2
                    go_roundw
                    case rel => exact ⟨rn, by omega, by omega, HN.out⟩
                    case measure => rw [posW_eq HN.out, HPW.out]; omega
              · have HE : Hid (rn = s.size ∨ byt s rn ≠ byt s pos) := .inl (by omega)
                have hgt : p < rn := by
                  rcases Nat.lt_or_ge p rn with h | h
                  · exact h
                  · obtain rfl : rn = p := by omega
                    rcases HE.out with h | h
                    · omega
                    · exact absurd HB.out h
                by_cases h3 : p + 3 ≤ rn
                · have i5 : (3 : Int) ≤ (rn : Int) - (p : Int) := by omega
                  have HT : Hid (Stop s pos (p + min (rn - p) 5)) := .inr ⟨p, rn, by omega, h3, by omega, HALL.out, HE.out, rfl⟩
                  go_wp2
                  go_region
                  go_wp2
                  all_goals
                    refine bodyPost_ret (results_none rfl _ _ _) rfl ?_
                    exact ⟨rfl, _, HT.out, (HC3.out.set' hP (p + min (rn - p) 5) _ (by first | omega | (split <;> omega))).drew⟩
                · have i5 : ¬ (3 : Int) ≤ (rn : Int) - (p : Int) := by omega
                  have HN : Hid _ := HC3.out.set hP rn
                  go_wp2
                  go_roundw
                  case rel => exact ⟨rn, by omega, by omega, HN.out⟩
                  case measure => rw [posW_eq HN.out, HPW.out]; omega
          · have t3 : ((cb : Int) == (qb : Int)) = false := by simp; omega
            clear hB
            have HN : Hid _ := HC3.out.set' hP (p + 1) ((p : Int) + 1) (by omega)
            go_wp2
            go_roundw
            case rel => exact ⟨p + 1, by omega, by omega, HN.out⟩
            case measure => rw [posW_eq HN.out, HPW.out]; omega
      · have t1 : ((cb : Int) == 92) = false := by simp; omega
        clear h92
        by_cases hB : cb = qb
        · have t3 : ((cb : Int) == (qb : Int)) = true := by simp [hB]
          have HB : Hid (byt s p = byt s pos) := by show byt s p = byt s pos; rw [HCB.out, HQB.out, hB]
          clear hB
          go_wp2
          go_loop [4] (fun r => ∃ rn : Nat, r = .int .i64 (rn : Nat) ∧ p ≤ rn ∧ rn ≤ s.size ∧ ∀ i, p ≤ i → i < rn → byt s i = byt s pos) (fun r => s.size - (intOf r).toNat)
          case atStart => exact ⟨p, rfl, Nat.le_refl _, by omega, fun i h1 h2 => absurd h2 (by omega)⟩
          case round =>
            obtain ⟨rn, rfl, hr1, hr2, hall⟩ := hrel
            have HALL : Hid _ := hall
            clear hall
            by_cases hr : rn < s.size
            · obtain ⟨rb, hrb⟩ : ∃ rb, byt s rn = rb := ⟨_, rfl⟩
              have hrc : s[rn].toNat = rb := (byt_in hr).trans hrb
              have HRB : Hid (byt s rn = rb) := hrb
              clear hrb
              by_cases hE : rb = qb
              · have t4 : ((rb : Int) == (qb : Int)) = true := by simp [hE]
                have HA2 : Hid (∀ i, p ≤ i → i < rn + 1 → byt s i = byt s pos) := by
                  intro i h1 h2
                  by_cases e : i = rn
                  · subst e; rw [HRB.out, HQB.out, hE]
                  · exact HALL.out i h1 (by omega)
                clear hE
                go_wp2
                go_round
                case rel => exact ⟨rn + 1, by go_num, by omega, by omega, HA2.out⟩
                case measure => simp [intOf]; omega
              · have t4 : ((rb : Int) == (qb : Int)) = false := by simp; omega
                have HE : Hid (rn = s.size ∨ byt s rn ≠ byt s pos) := .inr (by rw [HRB.out, HQB.out]; exact hE)
                clear hE
                have hgt : p < rn := by
                  rcases Nat.lt_or_ge p rn with h | h
                  · exact h
                  · obtain rfl : rn = p := by omega
                    rcases HE.out with h | h
                    · omega
                    · exact absurd HB.out h
                by_cases h3 : p + 3 ≤ rn
                · have i5 : (3 : Int) ≤ (rn : Int) - (p : Int) := by omega
                  have HT : Hid (Stop s pos (p + min (rn - p) 5)) := .inr ⟨p, rn, by omega, h3, by omega, HALL.out, HE.out, rfl⟩
                  go_wp2
                  go_region
                  go_wp2
                  all_goals
                    refine bodyPost_ret (results_none rfl _ _ _) rfl ?_
                    exact ⟨rfl, _, HT.out, (HC3.out.set' hP (p + min (rn - p) 5) _ (by first | omega | (split <;> omega))).drew⟩
                · have i5 : ¬ (3 : Int) ≤ (rn : Int) - (p : Int) := by omega
                  have HN : Hid _ := HC3.out.set hP rn
                  go_wp2
                  go_roundw
                  case rel => exact ⟨rn, by omega, by omega, HN.out⟩
                  case measure => rw [posW_eq HN.out, HPW.out]; omega
            · have HE : Hid (rn = s.size ∨ byt s rn ≠ byt s pos) := .inl (by omega)
              have hgt : p < rn := by
                rcases Nat.lt_or_ge p rn with h | h
                · exact h
                · obtain rfl : rn = p := by omega
                  rcases HE.out with h | h
                  · omega
                  · exact absurd HB.out h
              by_cases h3 : p + 3 ≤ rn
              · have i5 : (3 : Int) ≤ (rn : Int) - (p : Int) := by omega
                have HT : Hid (Stop s pos (p + min (rn - p) 5)) := .inr ⟨p, rn, by omega, h3, by omega, HALL.out, HE.out, rfl⟩
                go_wp2
                go_region
                go_wp2
                all_goals
                  refine bodyPost_ret (results_none rfl _ _ _) rfl ?_
                  exact ⟨rfl, _, HT.out, (HC3.out.set' hP (p + min (rn - p) 5) _ (by first | omega | (split <;> omega))).drew⟩
              · have i5 : ¬ (3 : Int) ≤ (rn : Int) - (p : Int) := by omega
                have HN : Hid _ := HC3.out.set hP rn
                go_wp2
                go_roundw
                case rel => exact ⟨rn, by omega, by omega, HN.out⟩
                case measure => rw [posW_eq HN.out, HPW.out]; omega
        · have t3 : ((cb : Int) == (qb : Int)) = false := by simp; omega
          clear hB
          have HN : Hid _ := HC3.out.set' hP (p + 1) ((p : Int) + 1) (by omega)
          go_wp2
          go_roundw
          case rel => exact ⟨p + 1, by omega, by omega, HN.out⟩
          case measure => rw [posW_eq HN.out, HPW.out]; omega
    · go_wp2_with fail
      refine (done_yes P s p _ hs c0 c1 (by omega)).mono ?_
      rintro e w' ⟨rfl, d, rfl⟩
      go_wp2
      go_end0
      exact ⟨rfl, s.size, .inl rfl, (HC.out.drewN d).set hP s.size⟩

end Go.Proofs.Qxb6601227a
