/-
  WALKS (seat b6602085a): endsCVC, cut.
-/
import Derived.Test.Qxb6602085aWalkB
import Derived.Laws.IdiomStrings
namespace Go.Proofs.Qxb6602085a
open Go.RowKit Go.Lib

set_option maxHeartbeats 400000 in
theorem endsCVC_short (a : Option Addr) (n c : Nat) (w : World) (hn : n < 3) :
    Calls Try.prog 33 #[.slice a n c] w fun e w' => e = .returned (.bool false) ∧ w' = w := by
  go_enter Try.func33, Try.ntmps33
  go_wp2
  go_ret
  exact ⟨rfl, rfl⟩

set_option maxHeartbeats 1000000 in
theorem endsCVC_long (b o k c : Nat) (p0 p1 p2 : Bool) (z : Int) (w : World) (hm : k + 3 ≤ maxLen) (hz : w.cell? ⟨b, o + (k + 2), none⟩ = some (.int .u8 z))
    (C0 : Hid (∀ i : Int, i = (k : Int) → Calls Try.prog 34 #[.slice (some ⟨b, o, none⟩) (k + 3) c, .int .i64 i] w fun e w' => e = .returned (.bool p0) ∧ w' = w))
    (C1 : Hid (∀ i : Int, i = ((k : Int) + 1) → Calls Try.prog 34 #[.slice (some ⟨b, o, none⟩) (k + 3) c, .int .i64 i] w fun e w' => e = .returned (.bool p1) ∧ w' = w))
    (C2 : Hid (∀ i : Int, i = ((k : Int) + 2) → Calls Try.prog 34 #[.slice (some ⟨b, o, none⟩) (k + 3) c, .int .i64 i] w fun e w' => e = .returned (.bool p2) ∧ w' = w)) :
    Calls Try.prog 33 #[.slice (some ⟨b, o, none⟩) (k + 3) c] w fun e w' => e = .returned (.bool (p0 && !p1 && p2 && z != 119 && z != 120 && z != 121)) ∧ w' = w := by
  unfold maxLen at hm
  cases p0
  · go_enter Try.func33, Try.ntmps33
    go_wp2_with fail
    refine (C0.out _ (by omega)).mono ?_
    rintro e w' ⟨rfl, hw⟩
    rw [hw]
    go_wp2
    go_ret
    exact ⟨rfl, rfl⟩
  cases p1
  case true =>
    go_enter Try.func33, Try.ntmps33
    go_wp2_with fail
    refine (C0.out _ (by omega)).mono ?_
    rintro e w' ⟨rfl, hw⟩
    rw [hw]
    go_wp2_with fail
    refine (C1.out _ (by omega)).mono ?_
    rintro e w' ⟨rfl, hw⟩
    rw [hw]
    go_wp2
    go_ret
    exact ⟨rfl, rfl⟩
  cases p2
  · go_enter Try.func33, Try.ntmps33
    go_wp2_with fail
    refine (C0.out _ (by omega)).mono ?_
    rintro e w' ⟨rfl, hw⟩
    rw [hw]
    go_wp2_with fail
    refine (C1.out _ (by omega)).mono ?_
    rintro e w' ⟨rfl, hw⟩
    rw [hw]
    go_wp2_with fail
    refine (C2.out _ (by omega)).mono ?_
    rintro e w' ⟨rfl, hw⟩
    rw [hw]
    go_wp2
    go_ret
    exact ⟨rfl, rfl⟩
  · go_enter Try.func33, Try.ntmps33
    go_wp2_with fail
    refine (C0.out _ (by omega)).mono ?_
    rintro e w' ⟨rfl, hw⟩
    rw [hw]
    go_wp2_with fail
    refine (C1.out _ (by omega)).mono ?_
    rintro e w' ⟨rfl, hw⟩
    rw [hw]
    go_wp2_with fail
    refine (C2.out _ (by omega)).mono ?_
    rintro e w' ⟨rfl, hw⟩
    rw [hw]
    go_wp2
    all_goals go_ret
    all_goals exact ⟨ret_bool (by simp [*]), rfl⟩

theorem endsCVC_any (b o n c : Nat) (l : List UInt8) (w : World) (H : BS w b o n l) (hm : n ≤ maxLen) :
    Calls Try.prog 33 #[.slice (some ⟨b, o, none⟩) n c] w fun e w' => e = .returned (.bool (endsCVC l n)) ∧ w' = w := by
  by_cases hn : n < 3
  · have e : endsCVC l n = false := by unfold endsCVC; rw [decide_eq_false (by omega)]; rfl
    rw [e]
    exact endsCVC_short _ n c w hn
  · obtain ⟨k, rfl⟩ : ∃ k, n = k + 3 := ⟨n - 3, by omega⟩
    have e : endsCVC l (k + 3) = (cons l k && !cons l (k + 1) && cons l (k + 2) && ((l.getD (k + 2) 0).toNat : Int) != 119 && ((l.getD (k + 2) 0).toNat : Int) != 120 && ((l.getD (k + 2) 0).toNat : Int) != 121) := by
      unfold endsCVC
      rw [decide_eq_true (by omega), Bool.true_and]
      show (cons l k && !cons l (k + 1) && cons l (k + 2) && !(l.getD (k + 2) 0 == 119) && !(l.getD (k + 2) 0 == 120) && !(l.getD (k + 2) 0 == 121)) = _
      rw [beqInt, beqInt, beqInt]
      rfl
    rw [e]
    have c0 := cons_any b o (k + 3) c l w H hm k (by omega)
    have c1 := cons_any b o (k + 3) c l w H hm (k + 1) (by omega)
    have c2 := cons_any b o (k + 3) c l w H hm (k + 2) (by omega)
    exact endsCVC_long b o k c _ _ _ _ w hm (H.cell (k + 2) (by omega)) (fun i hi => by rw [hi]; exact c0) (fun i hi => by rw [hi, show (k : Int) + 1 = ((k + 1 : Nat) : Int) by omega]; exact c1) (fun i hi => by rw [hi, show (k : Int) + 2 = ((k + 2 : Nat) : Int) by omega]; exact c2)

set_option maxHeartbeats 400000 in
theorem cut_short (a : Option Addr) (n c : Nat) (suf : ByteArray) (w : World) (hn : n ≤ suf.size) (hs : suf.size ≤ 1000) :
    Calls Try.prog 29 #[.slice a n c, .string suf] w fun e w' => e = .returned (.tuple #[.slice a n c, .bool false]) ∧ w' = w := by
  go_enter Try.func29, Try.ntmps29
  go_wp2
  go_ret2
  exact ⟨rfl, rfl⟩

set_option maxHeartbeats 400000 in
theorem cut_long_yes (b o k m c : Nat) (suf tl : ByteArray) (w : World) (hm : suf.size = m) (hm0 : 0 < m) (hk : 0 < k) (hc : k + m ≤ c) (hcm : c ≤ maxLen) (h3 : m ≤ 1000)
    (hcv : ∀ q, (convert 34 9 (.slice (some ⟨b, o + k, none⟩) m q)).run Try.prog w = .ok (.string tl) w) (ht : (tl.toList == suf.toList) = true) :
    Calls Try.prog 29 #[.slice (some ⟨b, o, none⟩) (k + m) c, .string suf] w fun e w' => e = .returned (.tuple #[.slice (some ⟨b, o, none⟩) k c, .bool true]) ∧ w' = w := by
  unfold maxLen at hcm
  have hck : ¬ c = k := by omega
  go_enter Try.func29, Try.ntmps29
  go_wp2
  go_ret2
  exact ⟨rfl, rfl⟩

set_option maxHeartbeats 400000 in
theorem cut_long_no (b o k m c : Nat) (suf tl : ByteArray) (w : World) (hm : suf.size = m) (hm0 : 0 < m) (hk : 0 < k) (hc : k + m ≤ c) (hcm : c ≤ maxLen) (h3 : m ≤ 1000)
    (hcv : ∀ q, (convert 34 9 (.slice (some ⟨b, o + k, none⟩) m q)).run Try.prog w = .ok (.string tl) w) (ht : (tl.toList == suf.toList) = false) :
    Calls Try.prog 29 #[.slice (some ⟨b, o, none⟩) (k + m) c, .string suf] w fun e w' => e = .returned (.tuple #[.slice (some ⟨b, o, none⟩) (k + m) c, .bool false]) ∧ w' = w := by
  unfold maxLen at hcm
  have hck : ¬ c = k := by omega
  go_enter Try.func29, Try.ntmps29
  go_wp2
  go_ret2
  exact ⟨rfl, rfl⟩

theorem conv_tail (b o k m : Nat) (l : List UInt8) (w : World) (H : BS w b o (k + m) l) (q : Nat) :
    (convert 34 9 (.slice (some ⟨b, o + k, none⟩) m q)).run Try.prog w = .ok (.string ⟨((l.take (k + m)).drop k).toArray⟩) w := by
  have hle := H.len
  have hl : ((l.take (k + m)).drop k).length = m := by rw [List.length_drop, List.length_take]; omega
  have := run_convert_bytes_back (P := Try.prog) w 34 9 5 ⟨b, o + k, none⟩ q ((l.take (k + m)).drop k) Try.underlying34 Try.underlying5 Try.underlying9 (fun j hj => by
    have hadd : (⟨b, o + k, none⟩ : Addr).add j = ⟨b, o + (k + j), none⟩ := by unfold Addr.add; split <;> simp_all; omega
    rw [hadd, H.cell (k + j) (by omega)]
    rw [List.getElem_drop, List.getElem_take, List.getD, List.getElem?_eq_getElem (show k + j < l.length by omega)]
    rfl)
  rw [hl] at this
  exact this

theorem cut_true (b o n c : Nat) (l : List UInt8) (suf : ByteArray) (w : World) (H : BS w b o n l) (hnc : n ≤ c) (hcm : c ≤ maxLen) (h0 : 0 < suf.size) (h3 : suf.size ≤ 1000) (hcut : cuts l n suf.data.toList = true) :
    Calls Try.prog 29 #[.slice (some ⟨b, o, none⟩) n c, .string suf] w fun e w' => e = .returned (.tuple #[.slice (some ⟨b, o, none⟩) (n - suf.size) c, .bool true]) ∧ w' = w := by
  unfold cuts at hcut
  rw [Bool.and_eq_true, decide_eq_true_eq, beq_iff_eq, ← size_eq] at hcut
  obtain ⟨k, rfl⟩ : ∃ k, n = k + suf.size := ⟨n - suf.size, by omega⟩
  have e : k + suf.size - suf.size = k := by omega
  rw [e] at hcut ⊢
  refine cut_long_yes b o k suf.size c suf ⟨((l.take (k + suf.size)).drop k).toArray⟩ w rfl h0 (by omega) hnc hcm h3 (conv_tail b o k suf.size l w H) ?_
  rw [toList_data, toList_data]
  exact beq_iff_eq.2 hcut.2

theorem cut_false (b o n c : Nat) (l : List UInt8) (suf : ByteArray) (w : World) (H : BS w b o n l) (hnc : n ≤ c) (hcm : c ≤ maxLen) (h0 : 0 < suf.size) (h3 : suf.size ≤ 1000) (hcut : cuts l n suf.data.toList = false) :
    Calls Try.prog 29 #[.slice (some ⟨b, o, none⟩) n c, .string suf] w fun e w' => e = .returned (.tuple #[.slice (some ⟨b, o, none⟩) n c, .bool false]) ∧ w' = w := by
  by_cases hn : n ≤ suf.size
  · exact cut_short _ n c suf w hn h3
  unfold cuts at hcut
  rw [← size_eq, decide_eq_true (by omega), Bool.true_and] at hcut
  obtain ⟨k, rfl⟩ : ∃ k, n = k + suf.size := ⟨n - suf.size, by omega⟩
  have e : k + suf.size - suf.size = k := by omega
  rw [e] at hcut
  refine cut_long_no b o k suf.size c suf ⟨((l.take (k + suf.size)).drop k).toArray⟩ w rfl h0 (by omega) hnc hcm h3 (conv_tail b o k suf.size l w H) ?_
  rw [toList_data, toList_data]
  exact hcut
end Go.Proofs.Qxb6602085a
