/-
  WALKS (seat b6602085a): wb1EqualBytes, wb1IsAEIOU, wb1StemHasVowel.
-/
import Derived.Test.Qxb6602085aClone
namespace Go.Proofs.Qxb6602085a
open Go.RowKit Go.Lib

set_option maxHeartbeats 400000 in
theorem aeiou_any (x : UInt8) (w : World) :
    Calls Try.prog 26 #[.int .u8 x.toNat] w fun e w' => e = .returned (.bool (isV x)) ∧ w' = w := by
  rw [isV_int]
  generalize (x.toNat : Int) = z
  go_enter Try.func26, Try.ntmps26
  go_wp2
  all_goals go_ret
  all_goals refine ⟨ret_bool ?_, rfl⟩
  all_goals simp [*]

set_option maxRecDepth 1000000 in
set_option maxHeartbeats 1000000 in
theorem equal_yes (b1 o1 c1 b2 o2 c2 n : Nat) (l1 l2 : List UInt8) (w : World) (H1 : Hid (BS w b1 o1 n l1)) (H2 : Hid (BS w b2 o2 n l2)) (he : Hid (∀ i, i < n → l1.getD i 0 = l2.getD i 0)) (hn : n ≤ 2097152) :
    Calls Try.prog 10 #[.slice (some ⟨b1, o1, none⟩) n c1, .slice (some ⟨b2, o2, none⟩) n c2] w fun e w' => e = .returned (.bool true) ∧ ∃ m, w' = w.drewN m := by
  go_enter Try.func10, Try.ntmps10
  go_wp2
  go_loopw [5] (fun i wr => ∃ k : Nat, k ≤ n ∧ i = .int .i64 k ∧ Hid (∃ m, wr = w.drewN m)) (fun i _ => n - (RowKit.intOf i).toNat)
  case atStart => exact ⟨0, Nat.zero_le _, rfl, 0, rfl⟩
  case round =>
    obtain ⟨k, hk, rfl, HM⟩ := hrel
    obtain ⟨m, hm⟩ := HM.out
    clear HM
    subst hm
    by_cases hlt : k < n
    · have hc1 := H1.out.cell k hlt
      have hc2 := H2.out.cell k hlt
      rw [← he.out k hlt] at hc2
      generalize ((l1.getD k 0).toNat : Int) = z at hc1 hc2
      have hb1 : (k : Int) < (n : Int) := by omega
      go_wp2_with fail
      go_quiet (fail)
      go_wp2
      go_roundw
      case rel => exact ⟨k + 1, by omega, by go_num, _, rfl⟩
      case measure => simp [RowKit.intOf]; omega
    · go_wp2
      go_ret
      exact ⟨rfl, _, rfl⟩

set_option maxRecDepth 1000000 in
set_option maxHeartbeats 1000000 in
theorem stemHasVowel_any (b o n c : Nat) (l : List UInt8) (w : World) (H : Hid (BS w b o n l)) (hn : n ≤ 2097152) :
    Calls Try.prog 16 #[.slice (some ⟨b, o, none⟩) n c] w fun e w' => e = .returned (.bool (shvTo l n)) ∧ w' = w := by
  go_enter Try.func16, Try.ntmps16
  go_wp2
  go_loop [3] (fun i => ∃ k : Nat, k ≤ n ∧ i = .int .i64 k ∧ Hid (shvTo l k = false)) (fun i => n - (RowKit.intOf i).toNat)
  case atStart => exact ⟨0, Nat.zero_le _, rfl, rfl⟩
  case round =>
    obtain ⟨k, hk, rfl, H0⟩ := hrel
    by_cases hlt : k < n
    · have hc := H.out.cell k hlt
      obtain ⟨x, hx⟩ : ∃ x : UInt8, l.getD k 0 = x := ⟨_, rfl⟩
      have hy := beqInt x 121
      rw [hx] at hc
      have hs : shvAt l k = (isV x || (((x.toNat : Int) == 121) && decide (1 ≤ k))) := by unfold shvAt; rw [hx, hy]; rfl
      have HS : Hid (shvAt l k = (isV x || (((x.toNat : Int) == 121) && decide (1 ≤ k)))) := hs
      clear hs hy hx
      cases hv : isV x
      · cases hyy : ((x.toNat : Int) == 121)
        · go_wp2_with (go_at_call 26; refine (aeiou_any x _).mono ?_; rintro e w' ⟨rfl, hw⟩; rw [hw, hv])
          go_round
          case rel => exact ⟨k + 1, by omega, by go_num, by show (shvTo l k || shvAt l k) = false; rw [H0.out, HS.out, hv, hyy]; rfl⟩
          case measure => simp [RowKit.intOf]; omega
        · by_cases hk1 : 1 ≤ k
          · have hk2 : (1 : Int) ≤ (k : Int) := by omega
            go_wp2_with (go_at_call 26; refine (aeiou_any x _).mono ?_; rintro e w' ⟨rfl, hw⟩; rw [hw, hv])
            go_ret
            exact ⟨ret_bool (shvTo_true (by rw [HS.out, hv, hyy, decide_eq_true hk1]; rfl) n hlt).symm, rfl⟩
          · have hk2 : ¬ (1 : Int) ≤ (k : Int) := by omega
            go_wp2_with (go_at_call 26; refine (aeiou_any x _).mono ?_; rintro e w' ⟨rfl, hw⟩; rw [hw, hv])
            go_round
            case rel => exact ⟨k + 1, by omega, by go_num, by show (shvTo l k || shvAt l k) = false; rw [H0.out, HS.out, hv, hyy, decide_eq_false hk1]; rfl⟩
            case measure => simp [RowKit.intOf]; omega
      · go_wp2_with (go_at_call 26; refine (aeiou_any x _).mono ?_; rintro e w' ⟨rfl, hw⟩; rw [hw, hv])
        go_ret
        exact ⟨ret_bool (shvTo_true (by rw [HS.out, hv]; rfl) n hlt).symm, rfl⟩
    · go_wp2
      go_ret
      obtain rfl : k = n := by omega
      exact ⟨ret_bool H0.out.symm, rfl⟩

set_option maxRecDepth 1000000 in
set_option maxHeartbeats 1000000 in
theorem stemHasVowel_zero (a : Option Addr) (c : Nat) (w : World) :
    Calls Try.prog 16 #[.slice a 0 c] w fun e w' => e = .returned (.bool false) ∧ w' = w := by
  go_enter Try.func16, Try.ntmps16
  go_wp2
  refine wp_loop_rounds 1 ?_
  rw [rounds_succ]
  go_wp2
  go_ret
  exact ⟨rfl, rfl⟩
end Go.Proofs.Qxb6602085a
