/-
  Seat b6601227a: 'Rows.FnMultilineStringEndsOnItsCloserSaid'. The walk is ours; the row's step is the shell's that came with the seat.
-/
import Derived.Test.Qxb6601227aZZ
import Derived.WalkKit
import Derived.ProofKit
import Derived.OpenShut
import Derived.ShutString
namespace Go.Proofs.Qxb6601227a.fnMultilineStringEndsOnItsCloser
open Go.ChangeShapes Go.WideShapes Go.ChangeAt Go.RowKit
open Go.ChangeMaps (open_string shut_string)
set_option linter.unusedVariables false      -- a walk need not use every 'w<i>' (that an integer argument fits its kind)

theorem own : ownKnob Try.prog.godebug = none := by kernel_rfl

/-! ### STEP 1: THE WALK: the Go text returns true. 'Grown w w'': the world has at most new blocks (Derived/RowKit3.lean). Part the cases AHEAD of 'go_enter' where a test parts the walk; take each callee by a contract of your own. -/
theorem walk (a0 : ByteArray) (a1 : Int) (w0 : a0.size ≤ maxLen) (w1 : (Lit.int .i64 a1).wf = true) (w : World) :
    Calls Try.prog 3 #[.string a0, .int .i64 a1] w fun e w' => e = .returned (.bool true) ∧ Grown w w' := by
  unfold maxLen at w0
  go_enter Try.func3, Try.ntmps3
  go_wp2_with fail
  refine (bytes7 a0 a1 _ w0).mono ?_
  rintro e w' ⟨b, rfl, rfl⟩
  cases b
  · go_wp2
    go_ret
    exact ⟨rfl, Grown.refl _⟩
  by_cases h1 : 1048576 < a0.size
  · go_wp2
    go_ret
    exact ⟨rfl, Grown.refl _⟩
  have d1 : decide ((1048576 : Int) < (a0.size : Int)) = false := decide_eq_false (by omega)
  by_cases h2 : a1 < 0
  · go_wp2
    go_ret
    exact ⟨rfl, Grown.refl _⟩
  have d2 : decide (a1 < 0) = false := decide_eq_false (by omega)
  obtain ⟨pos, rfl⟩ : ∃ pos : Nat, a1 = (pos : Int) := ⟨a1.toNat, by omega⟩
  by_cases h3 : a0.size ≤ pos
  · have d3 : decide ((a0.size : Int) ≤ (pos : Int)) = true := decide_eq_true (by omega)
    go_wp2
    go_ret
    exact ⟨rfl, Grown.refl _⟩
  have h3' : pos < a0.size := by omega
  clear w1 d2 h2
  obtain ⟨qb, hqb⟩ : ∃ qb, byt a0 pos = qb := ⟨_, rfl⟩
  have hq : a0[pos].toNat = qb := (byt_in h3').trans hqb
  have HQB : Hid (byt a0 pos = qb) := hqb
  clear hqb
  go_wp2_with fail
  refine (zzmulti a0 pos _ (by omega) h3').mono ?_
  rintro e w2 ⟨r, rfl, hst, hgr⟩
  have HG : Hid _ := hgr
  clear hgr hq
  by_cases hn : r = a0.size
  · subst hn
    clear hst
    by_cases hlo : a0.size < pos + 3
    · have t1 : ((a0.size : Int) == (a0.size : Int)) = true := by simp
      have t2 : (a0.size : Int) < (pos : Int) + 3 := by omega
      go_wp2
      go_ret
      exact ⟨rfl, HG.out⟩
    · have t1 : ((a0.size : Int) == (a0.size : Int)) = true := by simp
      have t2 : ¬ (a0.size : Int) < (pos : Int) + 3 := by omega
      go_wp2
      go_ret
      exact ⟨rfl, HG.out⟩
  · rcases hst with hst | ⟨p, run, hp1, hp2, hp3, hall, hend, hr⟩
    · exact absurd hst hn
    have hr3 : p + 3 ≤ r := by omega
    have hrr : r ≤ run := by omega
    have hrn : r < a0.size := by omega
    obtain ⟨r1, hr1⟩ : ∃ r1, r - 1 = r1 := ⟨_, rfl⟩
    obtain ⟨r2, hr2⟩ : ∃ r2, r - 2 = r2 := ⟨_, rfl⟩
    obtain ⟨r3, hr3'⟩ : ∃ r3, r - 3 = r3 := ⟨_, rfl⟩
    have e1 : (r : Int) - 1 = (r1 : Int) := by omega
    have e2 : (r : Int) - 2 = (r2 : Int) := by omega
    have e3 : (r : Int) - 3 = (r3 : Int) := by omega
    have l1 : r1 < a0.size := by omega
    have l2 : r2 < a0.size := by omega
    have l3 : r3 < a0.size := by omega
    have b1 : a0[r1].toNat = qb := (byt_in l1).trans ((hall r1 (by omega) (by omega)).trans HQB.out)
    have b2 : a0[r2].toNat = qb := (byt_in l2).trans ((hall r2 (by omega) (by omega)).trans HQB.out)
    have b3 : a0[r3].toNat = qb := (byt_in l3).trans ((hall r3 (by omega) (by omega)).trans HQB.out)
    have tn : ((r : Int) == (a0.size : Int)) = false := by simp; omega
    have t2 : ¬ (a0.size : Int) < (pos : Int) + 3 := by omega
    have t3 : ¬ (r : Int) < (pos : Int) + 3 := by omega
    have t4 : ¬ (a0.size : Int) < (r : Int) := by omega
    have t6 : ¬ (r : Int) < (pos : Int) + 6 := by omega
    have tq : ((qb : Int) != (qb : Int)) = false := by simp
    obtain ⟨rb, hrb⟩ : ∃ rb, byt a0 r = rb := ⟨_, rfl⟩
    have hrc : a0[r].toNat = rb := (byt_in hrn).trans hrb
    by_cases hE : rb = qb
    · have h5 : p + 5 = r := by
        rcases Nat.lt_or_ge (run - p) 5 with h | h
        · exfalso
          have : r = run := by omega
          rw [← this] at hend
          rcases hend with h | h
          · exact hn h
          · exact h (by rw [hrb, HQB.out, hE])
        · omega
      obtain ⟨r4, hr4⟩ : ∃ r4, r - 4 = r4 := ⟨_, rfl⟩
      obtain ⟨r5, hr5⟩ : ∃ r5, r - 5 = r5 := ⟨_, rfl⟩
      have e4 : (r : Int) - 4 = (r4 : Int) := by omega
      have e5 : (r : Int) - 5 = (r5 : Int) := by omega
      have l4 : r4 < a0.size := by omega
      have l5 : r5 < a0.size := by omega
      have b4 : a0[r4].toNat = qb := (byt_in l4).trans ((hall r4 (by omega) (by omega)).trans HQB.out)
      have b5 : a0[r5].toNat = qb := (byt_in l5).trans ((hall r5 (by omega) (by omega)).trans HQB.out)
      have t7 : ¬ (r5 : Int) < (pos : Int) + 3 := by omega
      have te : ((rb : Int) == (qb : Int)) = true := by simp [hE]
      clear hr1 hr2 hr3' hr4 hr5 hall hend hr hrb hE h5
      go_wp2
      go_ret
      exact ⟨rfl, HG.out⟩
    · have te : ((rb : Int) == (qb : Int)) = false := by simp; omega
      clear hr1 hr2 hr3' hall hend hr hrb hE
      go_wp2
      go_ret
      exact ⟨rfl, HG.out⟩

/-! ### THE ROW's STEP: WRITTEN OUT: LEAVE IT -/
set_option maxRecDepth 100000 in
theorem lifted (os : Os) (started : os.Started) (H : Type) (enc : TypeId × Value → H) :
    ReturnsInHanded {} Try.checked os 3 .any (Rows.fnMultilineStringEndsOnItsCloserSpec.pre6 enc Try.prog Try.f3 Rows.fnMultilineStringEndsOnItsCloserRow.domain false) (Rows.fnMultilineStringEndsOnItsCloserSpec.post enc Try.prog Try.f3 false true false false) := by
  refine returnsInHanded_of_change (C := Try.checked) own started (by kernel_rfl) Try.func3
    (ChangeSpec.witness6 (enc := enc) (C := Try.checked) false ⟨#[], #[.string ByteArray.empty, .int .i64 0], []⟩ 8 (by kernel_rfl) (by kernel_rfl) (by kernel_rfl) (by kernel_rfl)) ?_
  intro W base args ds gs before hval0 hW hcnd _
  have hval : ∀ (j : Nat) t v, Try.f3.params[j]? = some t → args[j]? = some v → Value.okWide Try.prog W .any base t v := hval0
  have hW' := hW
  obtain ⟨p, q, hA0, hV, rfl, hfz, hnd⟩ := hW
  have hA : DataW.TrodAll enc Try.prog W 0 (fun _ => true) true Try.f3.params.toList args.toList ds p := hA0
  rw [Try.params3] at hA hval
  obtain ⟨v0, vs0, d0, ds0, p0, q0, hargs, rfl, rfl, h0, r0⟩ := trodAll_cons hA
  obtain ⟨v1, vs1, d1, ds1, p1, q1, rfl, rfl, rfl, h1, r1⟩ := trodAll_cons r0
  obtain ⟨rfl, rfl, rfl⟩ := trodAll_nil r1
  obtain rfl : args = #[v0, v1] := by cases args; simp_all
  obtain ⟨rfl, rfl⟩ := trodVars_none hV
  obtain ⟨a0, rfl, rfl, rfl, w0⟩ := open_string Try.underlying9 (hval 0 9 v0 rfl rfl) h0
  obtain ⟨a1, rfl, rfl, rfl, w1⟩ := open_int Try.underlying3 (hval 1 3 v1 rfl rfl) h1
  clear hA0 hval0
  simp only [List.append_nil] at hW'
  refine (walk a0 a1 w0 w1 W).mono fun e W' ⟨he, hg⟩ => ?_
  subst he
  exact ⟨_, rfl, post_of_same (pa := []) (pv := []) hW' (fun _ _ _ => (trodAll_cons_mk (shut_bool Try.underlying4 _) trodAll_mk0)) (fun sp _ => (trodAll_cons_mk (shut_string Try.underlying9 w0) (trodAll_cons_mk (shut_int Try.underlying3 w1) trodAll_mk0))) (fun _ _ => rfl) rfl
    (hg.frame _) hg.2.1 (ok_one (by kernel_rfl) rfl (okWide_bool_mk Try.underlying4 _))⟩

theorem over : Rows.fnMultilineStringEndsOnItsCloserRow.holds Try.pinned (OpenSpec.ofChange Rows.fnMultilineStringEndsOnItsCloserSpec) :=
  OpenClaim.holds_of_wide 3 Try.f3 rfl rfl rfl rfl rfl rfl rfl ⟨rfl, rfl, rfl, rfl, rfl⟩ rfl rfl rfl rfl rfl (by kernel_rfl) Try.func3 (by kernel_rfl)
    (of_decide_eq_true (by kernel_rfl)) (by unfold Func.isWrapper; first | (rw [if_pos (by decide +kernel)]; kernel_rfl) | (rw [if_neg (by decide +kernel)]; exact ⟨rfl, rfl⟩))
    (fun os started H enc _ => lifted os started H enc)

/-- ████ THE STATEMENT ████ -/
theorem proved : Rows.FnMultilineStringEndsOnItsCloserSaid :=
  over
#print axioms proved
end Go.Proofs.Qxb6601227a.fnMultilineStringEndsOnItsCloser
