/-
  Seat b6600123a: contracts of the bounds on total length (zzBytes) of the failures' laws.
-/
import Derived.Test.Qxb6600123aBase
namespace Go.Proofs.Qxb6600123a
open Go.RowKit Go.Deep
set_option linter.unusedVariables false

set_option maxRecDepth 100000 in
set_option maxHeartbeats 1600000 in
theorem bytes37 (ka : Option Addr) (kn kc : Nat) (Ks : Nat → ByteArray) (na la : Option Addr) (nn nc ln lc : Nat) (k most : Int) (w : World) (hkn : kn ≤ maxLen) (hnn : nn ≤ maxLen) (hln : ln ≤ maxLen) (hK : In w.heap.size w ka kn kc (fun i => .string (Ks i))) :
    Calls Try.prog 37 #[.slice ka kn kc, .slice na nn nc, .slice la ln lc, .int .i64 k, .int .i64 most] w fun e w' => ∃ b, e = .returned (.bool b) ∧ w' = w := by
  unfold maxLen at hkn hnn hln
  by_cases h1 : 1048576 < kn
  · clear hK
    go_enter Try.func37, Try.ntmps37
    go_wp2
    go_ret
    exact ⟨_, rfl, rfl⟩
  have d1 : decide ((1048576 : Int) < (kn : Int)) = false := decide_eq_false (by omega)
  go_enter Try.func37, Try.ntmps37
  go_wp2
  go_loopw [11, 12] (fun z i wr => ∃ j s : Nat, j ≤ kn ∧ i = .int .i64 j ∧ z = .int .i64 s ∧ s ≤ 1048576 ∧ wr = w) (fun _ i _ => kn - (intOf i).toNat)
  case atStart => exact ⟨0, kn, Nat.zero_le _, rfl, rfl, by omega, rfl⟩
  case round =>
    obtain ⟨j, s, hj, rfl, rfl, hs, rfl⟩ := hrel
    by_cases hlt : j < kn
    · obtain ⟨b, off, rfl, hb, hc⟩ := hK.cell j hlt
      clear hK
      generalize Ks j = key2 at hc
      by_cases hz : 1048576 < key2.size
      · go_wp2
        go_ret
        exact ⟨_, rfl, rfl⟩
      have d2 : decide ((1048576 : Int) < (key2.size : Int)) = false := decide_eq_false (by omega)
      by_cases hz2 : 1048576 < s + key2.size
      · have d3 : decide ((1048576 : Int) < (s : Int) + (key2.size : Int)) = true := decide_eq_true (by omega)
        go_wp2
        go_ret
        exact ⟨_, rfl, rfl⟩
      · have d3 : decide ((1048576 : Int) < (s : Int) + (key2.size : Int)) = false := decide_eq_false (by omega)
        go_wp2
        go_roundw
        case rel => exact ⟨j + 1, s + key2.size, by omega, by go_num, by go_num, by omega, by trivial⟩
        case measure => simp [intOf]; omega
    · clear hK
      go_wp2
      all_goals (go_ret; exact ⟨_, rfl, rfl⟩)

set_option maxRecDepth 100000 in
set_option maxHeartbeats 1600000 in
theorem bytes38 (ka : Option Addr) (kn kc : Nat) (Ks : Nat → ByteArray) (na la : Option Addr) (nn nc ln lc : Nat) (k most tallied : Int) (w : World) (hkn : kn ≤ maxLen) (hnn : nn ≤ maxLen) (hln : ln ≤ maxLen) (hK : In w.heap.size w ka kn kc (fun i => .string (Ks i))) :
    Calls Try.prog 38 #[.slice ka kn kc, .slice na nn nc, .slice la ln lc, .int .i64 k, .int .i64 most, .int .i64 tallied] w fun e w' => ∃ b, e = .returned (.bool b) ∧ w' = w := by
  unfold maxLen at hkn hnn hln
  by_cases h1 : 1048576 < kn
  · clear hK
    go_enter Try.func38, Try.ntmps38
    go_wp2
    go_ret
    exact ⟨_, rfl, rfl⟩
  have d1 : decide ((1048576 : Int) < (kn : Int)) = false := decide_eq_false (by omega)
  go_enter Try.func38, Try.ntmps38
  go_wp2
  go_loopw [13, 14] (fun z i wr => ∃ j s : Nat, j ≤ kn ∧ i = .int .i64 j ∧ z = .int .i64 s ∧ s ≤ 1048576 ∧ wr = w) (fun _ i _ => kn - (intOf i).toNat)
  case atStart => exact ⟨0, kn, Nat.zero_le _, rfl, rfl, by omega, rfl⟩
  case round =>
    obtain ⟨j, s, hj, rfl, rfl, hs, rfl⟩ := hrel
    by_cases hlt : j < kn
    · obtain ⟨b, off, rfl, hb, hc⟩ := hK.cell j hlt
      clear hK
      generalize Ks j = key2 at hc
      by_cases hz : 1048576 < key2.size
      · go_wp2
        go_ret
        exact ⟨_, rfl, rfl⟩
      have d2 : decide ((1048576 : Int) < (key2.size : Int)) = false := decide_eq_false (by omega)
      by_cases hz2 : 1048576 < s + key2.size
      · have d3 : decide ((1048576 : Int) < (s : Int) + (key2.size : Int)) = true := decide_eq_true (by omega)
        go_wp2
        go_ret
        exact ⟨_, rfl, rfl⟩
      · have d3 : decide ((1048576 : Int) < (s : Int) + (key2.size : Int)) = false := decide_eq_false (by omega)
        go_wp2
        go_roundw
        case rel => exact ⟨j + 1, s + key2.size, by omega, by go_num, by go_num, by omega, by trivial⟩
        case measure => simp [intOf]; omega
    · clear hK
      go_wp2
      all_goals (go_ret; exact ⟨_, rfl, rfl⟩)

set_option maxRecDepth 100000 in
set_option maxHeartbeats 1600000 in
theorem bytes28 (ka : Option Addr) (kn kc : Nat) (Ks : Nat → ByteArray) (na la aa : Option Addr) (nn nc ln lc an ac : Nat) (most : Int) (prune : Bool) (key : ByteArray) (tallied : Int) (limit : Int) (w : World) (hkn : kn ≤ maxLen) (hnn : nn ≤ maxLen) (hln : ln ≤ maxLen) (hks : key.size ≤ maxLen) (han : an ≤ maxLen) (hK : In w.heap.size w ka kn kc (fun i => .string (Ks i))) :
    Calls Try.prog 28 #[.slice ka kn kc, .slice na nn nc, .slice la ln lc, .int .i64 most, .bool prune, .string key, .int .i64 tallied, .slice aa an ac, .int .u64 limit] w fun e w' => ∃ b, e = .returned (.bool b) ∧ w' = w := by
  unfold maxLen at hkn hnn hln hks han
  by_cases h1 : 1048576 < kn
  · clear hK
    go_enter Try.func28, Try.ntmps28
    go_wp2
    go_ret
    exact ⟨_, rfl, rfl⟩
  have d1 : decide ((1048576 : Int) < (kn : Int)) = false := decide_eq_false (by omega)
  go_enter Try.func28, Try.ntmps28
  go_wp2
  go_loopw [19, 20] (fun z i wr => ∃ j s : Nat, j ≤ kn ∧ i = .int .i64 j ∧ z = .int .i64 s ∧ s ≤ 1048576 ∧ wr = w) (fun _ i _ => kn - (intOf i).toNat)
  case atStart => exact ⟨0, kn, Nat.zero_le _, rfl, rfl, by omega, rfl⟩
  case round =>
    obtain ⟨j, s, hj, rfl, rfl, hs, rfl⟩ := hrel
    by_cases hlt : j < kn
    · obtain ⟨b, off, rfl, hb, hc⟩ := hK.cell j hlt
      clear hK
      generalize Ks j = key2 at hc
      by_cases hz : 1048576 < key2.size
      · go_wp2
        go_ret
        exact ⟨_, rfl, rfl⟩
      have d2 : decide ((1048576 : Int) < (key2.size : Int)) = false := decide_eq_false (by omega)
      by_cases hz2 : 1048576 < s + key2.size
      · have d3 : decide ((1048576 : Int) < (s : Int) + (key2.size : Int)) = true := decide_eq_true (by omega)
        go_wp2
        go_ret
        exact ⟨_, rfl, rfl⟩
      · have d3 : decide ((1048576 : Int) < (s : Int) + (key2.size : Int)) = false := decide_eq_false (by omega)
        go_wp2
        go_roundw
        case rel => exact ⟨j + 1, s + key2.size, by omega, by go_num, by go_num, by omega, by trivial⟩
        case measure => simp [intOf]; omega
    · clear hK
      go_wp2
      all_goals (go_ret; exact ⟨_, rfl, rfl⟩)

end Go.Proofs.Qxb6600123a
