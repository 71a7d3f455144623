/-
  WALKS (seat b6602085a): consonant.
-/
import Derived.Test.Qxb6602085aRows
import Derived.Test.Qxb6602085aPlain
import Derived.WalkKit
import Derived.WalkSpells
import Derived.WalkLawsBesides
namespace Go.Proofs.Qxb6602085a
open Go.RowKit

/-- The first n bytes of l lie from cell o of block b on. -/
structure BS (w : World) (b o n : Nat) (l : List UInt8) : Prop where
  len : n ≤ l.length
  cell : ∀ i, i < n → w.cell? ⟨b, o + i, none⟩ = some (.int .u8 (l.getD i 0).toNat)

theorem BS.less {w : World} {b o n m : Nat} {l : List UInt8} (H : BS w b o n l) (h : m ≤ n) : BS w b o m l := ⟨by have := H.len; omega, fun i hi => H.cell i (by omega)⟩

theorem ret_bool {a b : Bool} (h : a = b) : Ending.returned (.bool a) = .returned (.bool b) := by rw [h]
theorem ret_int {k : IntKind} {a b : Int} (h : a = b) : Ending.returned (.int k a) = .returned (.int k b) := by rw [h]

theorem cons0_leaf (l : List UInt8) (z : Int) (h : ((l.getD 0 0).toNat : Int) = z) : cons l 0 = !(z == 97 || z == 101 || z == 105 || z == 111 || z == 117) := by
  show (!isV (l.getD 0 0)) = _
  rw [isV_int, h]
theorem consS_leaf (l : List UInt8) (i : Nat) (z : Int) (h : ((l.getD (i + 1) 0).toNat : Int) = z) : cons l (i + 1) = (if (z == 97 || z == 101 || z == 105 || z == 111 || z == 117) then false else if z == 121 then !cons l i else true) := by
  show (if isV (l.getD (i + 1) 0) then false else if l.getD (i + 1) 0 == 121 then !cons l i else true) = _
  rw [isV_int, beqInt, h]
  rfl

set_option maxHeartbeats 400000 in
theorem cons_zero (b o n c : Nat) (z : Int) (w : World) (hn : 0 < n) (hc : w.cell? ⟨b, o, none⟩ = some (.int .u8 z)) :
    Calls Try.prog 34 #[.slice (some ⟨b, o, none⟩) n c, .int .i64 0] w fun e w' => e = .returned (.bool (!(z == 97 || z == 101 || z == 105 || z == 111 || z == 117))) ∧ w' = w := by
  go_enter Try.func34, Try.ntmps34
  go_wp2
  all_goals go_ret
  all_goals exact ⟨ret_bool (by simp [*]), rfl⟩

set_option maxHeartbeats 400000 in
theorem cons_succ (b o n c i : Nat) (z : Int) (p : Bool) (w : World) (hn : i + 1 < n) (hm : n ≤ maxLen) (hc : w.cell? ⟨b, o + (i + 1), none⟩ = some (.int .u8 z))
    (ih : Calls Try.prog 34 #[.slice (some ⟨b, o, none⟩) n c, .int .i64 i] w fun e w' => e = .returned (.bool p) ∧ w' = w) :
    Calls Try.prog 34 #[.slice (some ⟨b, o, none⟩) n c, .int .i64 ((i : Int) + 1)] w fun e w' => e = .returned (.bool (if (z == 97 || z == 101 || z == 105 || z == 111 || z == 117) then false else if z == 121 then !p else true)) ∧ w' = w := by
  unfold maxLen at hm
  go_enter Try.func34, Try.ntmps34
  go_wp2_with (go_at_call 34; refine ih.mono ?_; rintro e w' ⟨rfl, rfl⟩)
  all_goals go_ret
  all_goals exact ⟨ret_bool (by simp [*]), rfl⟩

/-- consonant: a byte of the slice. -/
theorem cons_any (b o n c : Nat) (l : List UInt8) (w : World) (H : BS w b o n l) (hm : n ≤ maxLen) : ∀ i : Nat, i < n →
    Calls Try.prog 34 #[.slice (some ⟨b, o, none⟩) n c, .int .i64 i] w fun e w' => e = .returned (.bool (cons l i)) ∧ w' = w
  | 0, hi => by
    rw [cons0_leaf l _ rfl]
    exact cons_zero b o n c _ w hi (H.cell 0 hi)
  | i + 1, hi => by
    have ih := cons_any b o n c l w H hm i (by omega)
    rw [consS_leaf l i _ rfl]
    exact cons_succ b o n c i _ _ w hi hm (H.cell (i + 1) hi) ih

set_option maxHeartbeats 400000 in
theorem hasVowel_any (b o n c : Nat) (l : List UInt8) (w : World) (H : Hid (BS w b o n l)) (hm : n ≤ maxLen) :
    Calls Try.prog 31 #[.slice (some ⟨b, o, none⟩) n c] w fun e w' => e = .returned (.bool (hvTo l n)) ∧ w' = w := by
  have hm' := hm
  unfold maxLen at hm'
  go_enter Try.func31, Try.ntmps31
  go_wp2
  go_loop [3, 6] (fun _ i => ∃ k : Nat, k ≤ n ∧ i = .int .i64 k ∧ Hid (hvTo l k = false)) (fun _ i => n - (intOf i).toNat)
  case atStart => exact ⟨0, Nat.zero_le _, rfl, rfl⟩
  case round =>
    obtain ⟨k, hk, rfl, H0⟩ := hrel
    by_cases hlt : k < n
    · cases hp : cons l k
      · go_wp2_with (go_at_call 34; refine (cons_any b o n c l _ H.out hm k hlt).mono ?_; rintro e w' ⟨rfl, rfl⟩; rw [hp])
        go_ret
        exact ⟨ret_bool (hvTo_true hp n hlt).symm, rfl⟩
      · go_wp2_with (go_at_call 34; refine (cons_any b o n c l _ H.out hm k hlt).mono ?_; rintro e w' ⟨rfl, rfl⟩; rw [hp])
        go_round
        case rel => exact ⟨k + 1, by omega, by go_num, by show (hvTo l k || !cons l k) = false; rw [H0.out, hp]; rfl⟩
        case measure => simp [intOf]; omega
    · go_wp2
      go_ret
      obtain rfl : k = n := by omega
      exact ⟨ret_bool H0.out.symm, rfl⟩

set_option maxHeartbeats 400000 in
theorem measure_any (b o n c : Nat) (l : List UInt8) (w : World) (H : Hid (BS w b o n l)) (hn : 1 ≤ n) (hm : n ≤ maxLen) :
    Calls Try.prog 30 #[.slice (some ⟨b, o, none⟩) n c] w fun e w' => e = .returned (.int .i64 (measTo l n)) ∧ w' = w := by
  have hm' := hm
  unfold maxLen at hm'
  go_enter Try.func30, Try.ntmps30
  go_wp2
  go_loop [3, 4] (fun m i => ∃ k q : Nat, 1 ≤ k ∧ k ≤ n ∧ q ≤ k ∧ i = .int .i64 k ∧ m = .int .i64 q ∧ Hid (q = measTo l k)) (fun _ i => n - (intOf i).toNat)
  case atStart => exact ⟨1, 0, by omega, hn, by omega, rfl, rfl, rfl⟩
  case round =>
    obtain ⟨k, q, hk1, hk, hq, rfl, rfl, HQ⟩ := hrel
    by_cases hlt : k < n
    · obtain ⟨k', rfl⟩ : ∃ k', k = k' + 1 := ⟨k - 1, by omega⟩
      have e1 : ((k' + 1 : Nat) : Int) = (k' : Int) + 1 := by omega
      have HC1 : Hid (Calls Try.prog 34 #[.slice (some ⟨b, o, none⟩) n c, .int .i64 ((k' : Int) + 1)] w fun e w' => e = .returned (.bool (cons l (k' + 1))) ∧ w' = w) := by
        have := cons_any b o n c l w H.out hm (k' + 1) hlt
        rw [e1] at this
        exact this
      have HC0 : Hid (Calls Try.prog 34 #[.slice (some ⟨b, o, none⟩) n c, .int .i64 (k' : Int)] w fun e w' => e = .returned (.bool (cons l k')) ∧ w' = w) := cons_any b o n c l w H.out hm k' (by omega)
      rw [e1]
      clear e1
      cases hp1 : cons l (k' + 1)
      · go_wp2_with fail
        refine HC1.out.mono ?_
        rintro e w' ⟨rfl, hw⟩
        rw [hw, hp1]
        clear HC1 HC0
        go_wp2
        go_round
        case rel => exact ⟨k' + 1 + 1, q, by omega, by omega, by omega, by go_num, rfl, by show _ = _; rw [measTo_succ, if_neg (by rw [hp1]; simp)]; exact HQ.out⟩
        case measure => simp [intOf]; omega
      · cases hp0 : cons l k'
        · go_wp2_with fail
          refine HC1.out.mono ?_
          rintro e w' ⟨rfl, hw⟩
          rw [hw, hp1]
          clear HC1
          go_wp2_with fail
          refine HC0.out.mono ?_
          rintro e w' ⟨rfl, hw⟩
          rw [hw, hp0]
          clear HC0
          go_wp2
          go_round
          case rel => exact ⟨k' + 1 + 1, q + 1, by omega, by omega, by omega, by go_num, by go_num, by show _ = _; rw [measTo_succ, if_pos ⟨by omega, hp1, hp0⟩, ← HQ.out]⟩
          case measure => simp [intOf]; omega
        · go_wp2_with fail
          refine HC1.out.mono ?_
          rintro e w' ⟨rfl, hw⟩
          rw [hw, hp1]
          clear HC1
          go_wp2_with fail
          refine HC0.out.mono ?_
          rintro e w' ⟨rfl, hw⟩
          rw [hw, hp0]
          clear HC0
          go_wp2
          go_round
          case rel => exact ⟨k' + 1 + 1, q, by omega, by omega, by omega, by go_num, rfl, by show _ = _; rw [measTo_succ, if_neg (by rw [show k' + 1 - 1 = k' from rfl, hp0]; simp)]; exact HQ.out⟩
          case measure => simp [intOf]; omega
    · go_wp2
      go_ret
      obtain rfl : k = n := by omega
      exact ⟨ret_int (by rw [HQ.out]), rfl⟩
end Go.Proofs.Qxb6602085a
