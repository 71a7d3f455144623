/-
  WALKS (seat b6602029a): sepAt, the two length guards, okPieces.
-/
import Derived.Test.Qxb6602029aWalkA
namespace Go.Proofs.Qxb6602029a
open Go.RowKit Go.Lib

set_option maxHeartbeats 400000 in
theorem sepAt_any (s : ByteArray) (w : World) (hs : s.size ≤ 2097152) :
    Calls Try.prog 7 #[.string s] w fun e w' => e = .returned (.int .i64 (index s.data.toList sepL)) ∧ w' = w := by
  go_enter Try.func7, Try.ntmps7
  go_wp2
  go_loop [3] (fun i => ∃ k : Nat, k ≤ s.size ∧ i = .int .i64 k ∧ Hid (NoOcc s.data.toList sepL k)) (fun i => s.size - (intOf i).toNat)
  case atStart => exact ⟨0, Nat.zero_le _, rfl, NoOcc.zero _ _⟩
  case round =>
    obtain ⟨k, hk, rfl, H0⟩ := hrel
    by_cases hlt : k + 3 ≤ s.size
    · go_wp2
      · go_ret
        exact ⟨ret_int (index_hit H0.out (by rw [← size_eq]; omega) (occ_yes s k hlt (by assumption) (by assumption) (by assumption))).symm, rfl⟩
      all_goals
        go_round
        case rel => exact ⟨k + 1, by omega, by go_num, H0.out.succ (by first | exact occ_no0 s k hlt (by assumption) | exact occ_no1 s k hlt (by assumption) | exact occ_no2 s k hlt (by assumption))⟩
        case measure => simp [intOf]; omega
    · have hlt' : ¬ (k : Int) + 3 ≤ (s.size : Int) := by omega
      go_wp2
      go_ret
      exact ⟨ret_int (index_past (by simp [sepL]) H0.out (by rw [← size_eq]; simp [sepL]; omega)).symm, rfl⟩

set_option maxHeartbeats 400000 in
theorem guard1_yes (s : ByteArray) (w : World) (h : s.size ≤ 1048576) :
    Calls Try.prog 5 #[.string s] w fun e w' => e = .returned (.bool true) ∧ w' = w := by
  go_enter Try.func5, Try.ntmps5
  go_wp2
  go_ret
  exact ⟨rfl, rfl⟩
set_option maxHeartbeats 400000 in
theorem guard1_no (s : ByteArray) (w : World) (h : 1048576 < s.size) :
    Calls Try.prog 5 #[.string s] w fun e w' => e = .returned (.bool false) ∧ w' = w := by
  go_enter Try.func5, Try.ntmps5
  go_wp2
  go_ret
  exact ⟨rfl, rfl⟩
set_option maxHeartbeats 400000 in
theorem guard2_yes (a b c d : ByteArray) (w : World) (h : a.size + b.size + c.size + d.size ≤ 1048576) :
    Calls Try.prog 9 #[.string a, .string b, .string c, .string d] w fun e w' => e = .returned (.bool true) ∧ w' = w := by
  go_enter Try.func9, Try.ntmps9
  go_wp2
  go_ret
  exact ⟨rfl, rfl⟩
set_option maxHeartbeats 400000 in
theorem guard2_no (a b c d : ByteArray) (w : World) (h : 1048576 < a.size + b.size + c.size + d.size) :
    Calls Try.prog 9 #[.string a, .string b, .string c, .string d] w fun e w' => e = .returned (.bool false) ∧ w' = w := by
  go_enter Try.func9, Try.ntmps9
  go_wp2
  all_goals go_ret
  all_goals exact ⟨rfl, rfl⟩

end Go.Proofs.Qxb6602029a
