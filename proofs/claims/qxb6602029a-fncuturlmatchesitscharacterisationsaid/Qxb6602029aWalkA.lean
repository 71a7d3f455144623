/-
  WALKS of the law's own small functions (seat b6602029a): sepAt, isPathStart, hasPathStart, hasAt, the two length guards.
-/
import Derived.Test.Qxb6602029aRows
import Derived.Test.Qxb6602029aPlain
import Derived.WalkKit
import Derived.WalkSpells
import Derived.WalkLawsBesides
namespace Go.Proofs.Qxb6602029a
open Go.RowKit Go.Lib

theorem ret_bool {a b : Bool} (h : a = b) : Ending.returned (.bool a) = .returned (.bool b) := by rw [h]
theorem ret_int {k : IntKind} {a b : Int} (h : a = b) : Ending.returned (.int k a) = .returned (.int k b) := by rw [h]

set_option maxHeartbeats 400000 in
theorem isPathStart_any (c : UInt8) (w : World) :
    Calls Try.prog 13 #[.int .u8 c.toNat] w fun e w' => e = .returned (.bool (isPS c)) ∧ w' = w := by
  rw [isPS_int]
  generalize (c.toNat : Int) = x
  go_enter Try.func13, Try.ntmps13
  go_wp2
  all_goals go_ret
  all_goals refine ⟨ret_bool ?_, rfl⟩
  all_goals simp [*]

set_option maxHeartbeats 400000 in
theorem hasPathStart_any (s : ByteArray) (w : World) (hs : s.size ≤ maxLen) :
    Calls Try.prog 11 #[.string s] w fun e w' => e = .returned (.bool (hasPS s.data.toList)) ∧ w' = w := by
  unfold maxLen at hs
  go_enter Try.func11, Try.ntmps11
  go_wp2
  go_loop [3] (fun i => ∃ k : Nat, k ≤ s.size ∧ i = .int .i64 k ∧ Hid ((s.data.toList.take k).any isPS = false)) (fun i => s.size - (intOf i).toNat)
  case atStart => exact ⟨0, Nat.zero_le _, rfl, rfl⟩
  case round =>
    obtain ⟨k, hk, rfl, H0⟩ := hrel
    by_cases hlt : k < s.size
    · cases hp : isPS s[k]
      · go_wp2_with (go_at_call 13; refine (isPathStart_any _ _).mono ?_; rintro e w' ⟨rfl, rfl⟩)
        go_round
        case rel => exact ⟨k + 1, by omega, by go_num, any_snoc hlt H0.out hp⟩
        case measure => simp [intOf]; omega
      · go_wp2_with (go_at_call 13; refine (isPathStart_any _ _).mono ?_; rintro e w' ⟨rfl, rfl⟩)
        go_ret
        exact ⟨ret_bool (any_hit hlt hp).symm, rfl⟩
    · go_wp2
      go_ret
      exact ⟨ret_bool (any_all hlt H0.out).symm, rfl⟩

set_option maxHeartbeats 400000 in
theorem hasAt_any (s : ByteArray) (w : World) (hs : s.size ≤ maxLen) :
    Calls Try.prog 12 #[.string s] w fun e w' => e = .returned (.bool (hasAtB s.data.toList)) ∧ w' = w := by
  unfold maxLen at hs
  go_enter Try.func12, Try.ntmps12
  go_wp2
  go_loop [3] (fun i => ∃ k : Nat, k ≤ s.size ∧ i = .int .i64 k ∧ Hid ((s.data.toList.take k).any isAtB = false)) (fun i => s.size - (intOf i).toNat)
  case atStart => exact ⟨0, Nat.zero_le _, rfl, rfl⟩
  case round =>
    obtain ⟨k, hk, rfl, H0⟩ := hrel
    by_cases hlt : k < s.size
    · have hq := isAtB_int s[k]
      cases hp : isAtB s[k]
      · rw [hp] at hq
        have hq' := hq.symm
        clear hq
        have HP : Hid (isAtB s[k] = false) := hp
        clear hp
        go_wp2
        go_round
        case rel => exact ⟨k + 1, by omega, by go_num, any_snoc hlt H0.out HP.out⟩
        case measure => simp [intOf]; omega
      · rw [hp] at hq
        have hq' := hq.symm
        clear hq
        have HP : Hid (isAtB s[k] = true) := hp
        clear hp
        go_wp2
        go_ret
        exact ⟨ret_bool (any_hit hlt HP.out).symm, rfl⟩
    · go_wp2
      go_ret
      exact ⟨ret_bool (any_all hlt H0.out).symm, rfl⟩

end Go.Proofs.Qxb6602029a
