/-
  WALKS (seat b6602118a): the length guard, zzSseBytesEqual, bytes.Index at one byte, bytes.Cut.
-/
import Derived.Test.Qxb6602118aRows
import Derived.Test.Qxb6602118aShelf
import Derived.WalkKit
import Derived.WalkSpells
import Derived.WalkLawsBesides
import Derived.OwnWalk
import Derived.Below
namespace Go.Proofs.Qxb6602118a
open Go.RowKit

/-- The numbers xs lie from cell o of block b on. -/
def NS (w : World) (b o : Nat) (xs : List Int) : Prop := ∀ i, i < xs.length → w.cell? ⟨b, o + i, none⟩ = some (.int .u8 (xs.getD i 0))

theorem wrap_small (x : Int) (h0 : 0 ≤ x) (h1 : x ≤ 4611686018427387904) : IntKind.i64.wrap x = x := by
  simp [IntKind.wrap, IntKind.bits, IntKind.signed]
  omega

set_option maxHeartbeats 400000 in
theorem guard_yes (a : Option Addr) (n c : Nat) (s : Bool) (w : World) (h : n ≤ 1048576) :
    Calls Try.prog 4 #[.slice a n c, .bool s] w fun e w' => e = .returned (.bool true) ∧ w' = w := by
  go_enter Try.func4, Try.ntmps4
  go_wp2
  go_ret
  exact ⟨rfl, rfl⟩
set_option maxHeartbeats 400000 in
theorem guard_no (a : Option Addr) (n c : Nat) (s : Bool) (w : World) (h : 1048576 < n) :
    Calls Try.prog 4 #[.slice a n c, .bool s] w fun e w' => e = .returned (.bool false) ∧ w' = w := by
  go_enter Try.func4, Try.ntmps4
  go_wp2
  go_ret
  exact ⟨rfl, rfl⟩

set_option maxRecDepth 1000000 in
set_option maxHeartbeats 1000000 in
theorem equal_yes (b1 o1 c1 b2 o2 c2 n : Nat) (xs : List Int) (w : World) (hx : xs.length = n) (H1 : Hid (NS w b1 o1 xs)) (H2 : Hid (NS w b2 o2 xs)) (hn : n ≤ 1048576) :
    Calls Try.prog 6 #[.slice (some ⟨b1, o1, none⟩) n c1, .slice (some ⟨b2, o2, none⟩) n c2] w fun e w' => e = .returned (.bool true) ∧ ∃ m, w' = w.drewN m := by
  go_enter Try.func6, Try.ntmps6
  go_wp2
  go_loopw [5] (fun i wr => ∃ k : Nat, k ≤ n ∧ i = .int .i64 k ∧ Hid (∃ m, wr = w.drewN m)) (fun i _ => n - (RowKit.intOf i).toNat)
  case atStart => exact ⟨0, Nat.zero_le _, rfl, 0, rfl⟩
  case round =>
    obtain ⟨k, hk, rfl, HM⟩ := hrel
    obtain ⟨m, hm⟩ := HM.out
    clear HM
    subst hm
    by_cases hlt : k < n
    · have hc1 := H1.out k (by omega)
      have hc2 := H2.out k (by omega)
      generalize xs.getD k 0 = z at hc1 hc2
      have hb1 : (k : Int) < (n : Int) := by omega
      go_wp2_with fail
      go_quiet (fail)
      go_wp2
      go_roundw
      case rel => exact ⟨k + 1, by omega, by go_num, _, rfl⟩
      case measure => simp [RowKit.intOf]; omega
    · go_wp2
      go_ret
      exact ⟨rfl, _, rfl⟩

set_option maxRecDepth 1000000 in
set_option maxHeartbeats 1000000 in
theorem equal_zero (a a' : Option Addr) (c c' : Nat) (w : World) :
    Calls Try.prog 6 #[.slice a 0 c, .slice a' 0 c'] w fun e w' => e = .returned (.bool true) ∧ w' = w := by
  go_enter Try.func6, Try.ntmps6
  go_wp2
  refine wp_loop_rounds 1 ?_
  rw [rounds_succ]
  go_wp2
  go_ret
  exact ⟨rfl, rfl⟩

theorem index_plain (r : List Int) : Lib.indexByte (Lib.bytesOf (100 :: 97 :: 116 :: 97 :: 58 :: r)) (58 : Int).toNat.toUInt8 = 4 := by
  simp [Lib.indexByte, Lib.bytesOf]

set_option maxRecDepth 1000000 in
set_option maxHeartbeats 1000000 in
theorem index_colon (b c b2 c2 n : Nat) (r : List Int) (w : World) (hn : r.length + 5 = n) (H : Hid (NS w b 0 (100 :: 97 :: 116 :: 97 :: 58 :: r))) (hs : w.cell? ⟨b2, 0, none⟩ = some (.int .u8 58)) :
    Calls Try.prog 9 #[.slice (some ⟨b, 0, none⟩) n c, .slice (some ⟨b2, 0, none⟩) 1 c2] w fun e w' => e = .returned (.int .i64 4) ∧ w' = w := by
  go_enter Try.func9, Try.ntmps9
  go_wp2_with fail
  refine (Try.bytes_IndexByte b 0 n c (100 :: 97 :: 116 :: 97 :: 58 :: r) 58 w (by simp; omega) (fun i hi => H.out i (by simp; omega))).mono ?_
  rintro e w' ⟨rfl, hw⟩
  rw [hw, index_plain]
  clear hw
  go_wp2
  go_ret
  exact ⟨rfl, rfl⟩

set_option maxRecDepth 1000000 in
set_option maxHeartbeats 1000000 in
theorem cut_colon (b b2 c2 j e : Nat) (r : List Int) (w : World) (hn : r.length = j) (hj : j + e ≤ 1048577) (h1 : 1 ≤ j + e) (H : Hid (NS w b 0 (100 :: 97 :: 116 :: 97 :: 58 :: r))) (hs : w.cell? ⟨b2, 0, none⟩ = some (.int .u8 58)) :
    Calls Try.prog 7 #[.slice (some ⟨b, 0, none⟩) (j + 5) (j + e + 5), .slice (some ⟨b2, 0, none⟩) 1 c2] w fun en w' => en = .returned (.tuple #[.slice (some ⟨b, 0, none⟩) 4 (j + e + 5), .slice (some ⟨b, 5, none⟩) j (j + e), .bool true]) ∧ ∃ q, w' = w.drewN q := by
  go_enter Try.func7, Try.ntmps7
  go_wp2_with fail
  refine (index_colon b (j + e + 5) b2 c2 (j + 5) r w (by omega) H hs).mono ?_
  rintro en w' ⟨rfl, hw⟩
  rw [hw]
  clear hw
  go_wp2_with fail
  go_region
  all_goals (try go_wp2)
  all_goals go_ret3
  all_goals exact ⟨rfl, _, rfl⟩
end Go.Proofs.Qxb6602118a
