/-
  WALK (seat b6602085a): step1b.
-/
import Derived.Test.Qxb6602085aWalkC
namespace Go.Proofs.Qxb6602085a
open Go.RowKit Go.Lib

set_option maxRecDepth 1000000 in
set_option maxHeartbeats 1000000 in
theorem step_eed (b o k c : Nat) (l : List UInt8) (w : World) (H : Hid (BS w b o (k + 3) l)) (hnc : k + 3 ≤ c) (hcm : c ≤ maxLen) (h1 : Hid (cuts l (k + 3) sEED = true)) (hk : 1 ≤ k) (hme : (0 : Int) < (measTo l k : Int)) :
    Calls Try.prog 27 #[.slice (some ⟨b, o, none⟩) (k + 3) c] w fun e w' => e = .returned (.slice (some ⟨b, o, none⟩) (k + 2) c) ∧ w' = w := by
  have hcm' := hcm
  unfold maxLen at hcm'
  have Hk : Hid (BS w b o k l) := H.out.less (by omega)
  go_enter Try.func27, Try.ntmps27
  go_wp2_with fail
  refine (cut_true b o (k + 3) c l _ w H.out hnc hcm (by decide) (by decide) h1.out).mono ?_
  rintro e w' ⟨rfl, hw⟩
  rw [hw]
  go_wp2_with fail
  refine (measure_any b o k c l w Hk hk (by omega)).mono ?_
  rintro e w' ⟨rfl, hw⟩
  rw [hw]
  generalize (measTo l k : Int) = mm at hme
  go_wp2
  go_ret
  exact ⟨rfl, rfl⟩

set_option maxRecDepth 1000000 in
set_option maxHeartbeats 1000000 in
theorem step_eed0 (b o k c : Nat) (l : List UInt8) (w : World) (H : Hid (BS w b o (k + 3) l)) (hnc : k + 3 ≤ c) (hcm : c ≤ maxLen) (h1 : Hid (cuts l (k + 3) sEED = true)) (hk : 1 ≤ k) (hme : ¬ (0 : Int) < (measTo l k : Int)) :
    Calls Try.prog 27 #[.slice (some ⟨b, o, none⟩) (k + 3) c] w fun e w' => e = .returned (.slice (some ⟨b, o, none⟩) (k + 3) c) ∧ w' = w := by
  have hcm' := hcm
  unfold maxLen at hcm'
  have Hk : Hid (BS w b o k l) := H.out.less (by omega)
  go_enter Try.func27, Try.ntmps27
  go_wp2_with fail
  refine (cut_true b o (k + 3) c l _ w H.out hnc hcm (by decide) (by decide) h1.out).mono ?_
  rintro e w' ⟨rfl, hw⟩
  rw [hw]
  go_wp2_with fail
  refine (measure_any b o k c l w Hk hk (by omega)).mono ?_
  rintro e w' ⟨rfl, hw⟩
  rw [hw]
  generalize (measTo l k : Int) = mm at hme
  go_wp2
  go_ret
  exact ⟨rfl, rfl⟩

set_option maxRecDepth 1000000 in
set_option maxHeartbeats 1000000 in
theorem step_none (b o n c : Nat) (l : List UInt8) (w : World) (H : Hid (BS w b o n l)) (hnc : n ≤ c) (hcm : c ≤ maxLen) (h1 : Hid (cuts l n sEED = false)) (h2 : Hid (cuts l n sED = false)) (h3 : Hid (cuts l n sING = false)) :
    Calls Try.prog 27 #[.slice (some ⟨b, o, none⟩) n c] w fun e w' => e = .returned (.slice (some ⟨b, o, none⟩) n c) ∧ w' = w := by
  go_enter Try.func27, Try.ntmps27
  go_wp2_with fail
  refine (cut_false b o n c l _ w H.out hnc hcm (by decide) (by decide) h1.out).mono ?_
  rintro e w' ⟨rfl, hw⟩
  rw [hw]
  go_wp2_with fail
  refine (cut_false b o n c l _ w H.out hnc hcm (by decide) (by decide) h2.out).mono ?_
  rintro e w' ⟨rfl, hw⟩
  rw [hw]
  go_wp2_with fail
  refine (cut_false b o n c l _ w H.out hnc hcm (by decide) (by decide) h3.out).mono ?_
  rintro e w' ⟨rfl, hw⟩
  rw [hw]
  go_wp2
  go_ret
  exact ⟨rfl, rfl⟩

set_option maxRecDepth 1000000 in
set_option maxHeartbeats 1000000 in
/-- The slice is too short for any suffix; nil too. -/
theorem step_short (a : Option Addr) (n c : Nat) (w : World) (hn : n ≤ 2) :
    Calls Try.prog 27 #[.slice a n c] w fun e w' => e = .returned (.slice a n c) ∧ w' = w := by
  go_enter Try.func27, Try.ntmps27
  go_wp2_with fail
  refine (cut_short a n c _ w (by show n ≤ 3; omega) (by decide)).mono ?_
  rintro e w' ⟨rfl, hw⟩
  rw [hw]
  go_wp2_with fail
  refine (cut_short a n c _ w (by show n ≤ 2; omega) (by decide)).mono ?_
  rintro e w' ⟨rfl, hw⟩
  rw [hw]
  go_wp2_with fail
  refine (cut_short a n c _ w (by show n ≤ 3; omega) (by decide)).mono ?_
  rintro e w' ⟨rfl, hw⟩
  rw [hw]
  go_wp2
  go_ret
  exact ⟨rfl, rfl⟩

set_option maxRecDepth 1000000 in
set_option maxHeartbeats 1000000 in
theorem step_ed_novowel (b o k c : Nat) (l : List UInt8) (w : World) (H : Hid (BS w b o (k + 2) l)) (hnc : k + 2 ≤ c) (hcm : c ≤ maxLen) (h1 : Hid (cuts l (k + 2) sEED = false)) (h2 : Hid (cuts l (k + 2) sED = true)) (hv : hvTo l k = false) :
    Calls Try.prog 27 #[.slice (some ⟨b, o, none⟩) (k + 2) c] w fun e w' => e = .returned (.slice (some ⟨b, o, none⟩) (k + 2) c) ∧ w' = w := by
  have Hk : Hid (BS w b o k l) := H.out.less (by omega)
  go_enter Try.func27, Try.ntmps27
  go_wp2_with fail
  refine (cut_false b o (k + 2) c l _ w H.out hnc hcm (by decide) (by decide) h1.out).mono ?_
  rintro e w' ⟨rfl, hw⟩
  rw [hw]
  go_wp2_with fail
  refine (cut_true b o (k + 2) c l _ w H.out hnc hcm (by decide) (by decide) h2.out).mono ?_
  rintro e w' ⟨rfl, hw⟩
  rw [hw]
  go_wp2_with fail
  refine (hasVowel_any b o k c l w Hk (by omega)).mono ?_
  rintro e w' ⟨rfl, hw⟩
  rw [hw, hv]
  go_wp2
  go_ret
  exact ⟨rfl, rfl⟩

set_option maxRecDepth 1000000 in
set_option maxHeartbeats 1000000 in
theorem step_ing_novowel (b o k c : Nat) (l : List UInt8) (w : World) (H : Hid (BS w b o (k + 3) l)) (hnc : k + 3 ≤ c) (hcm : c ≤ maxLen) (h1 : Hid (cuts l (k + 3) sEED = false)) (h2 : Hid (cuts l (k + 3) sED = false)) (h3 : Hid (cuts l (k + 3) sING = true)) (hv : hvTo l k = false) :
    Calls Try.prog 27 #[.slice (some ⟨b, o, none⟩) (k + 3) c] w fun e w' => e = .returned (.slice (some ⟨b, o, none⟩) (k + 3) c) ∧ w' = w := by
  have Hk : Hid (BS w b o k l) := H.out.less (by omega)
  go_enter Try.func27, Try.ntmps27
  go_wp2_with fail
  refine (cut_false b o (k + 3) c l _ w H.out hnc hcm (by decide) (by decide) h1.out).mono ?_
  rintro e w' ⟨rfl, hw⟩
  rw [hw]
  go_wp2_with fail
  refine (cut_false b o (k + 3) c l _ w H.out hnc hcm (by decide) (by decide) h2.out).mono ?_
  rintro e w' ⟨rfl, hw⟩
  rw [hw]
  go_wp2_with fail
  refine (cut_true b o (k + 3) c l _ w H.out hnc hcm (by decide) (by decide) h3.out).mono ?_
  rintro e w' ⟨rfl, hw⟩
  rw [hw]
  go_wp2_with fail
  refine (hasVowel_any b o k c l w Hk (by omega)).mono ?_
  rintro e w' ⟨rfl, hw⟩
  rw [hw, hv]
  go_wp2
  go_ret
  exact ⟨rfl, rfl⟩
end Go.Proofs.Qxb6602085a
