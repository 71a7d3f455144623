/-
  WALK (seat b6602085a): step1b where the stem of an ing holds a vowel.
-/
import Derived.Test.Qxb6602085aStep2
namespace Go.Proofs.Qxb6602085a
open Go.RowKit Go.Lib

set_option maxRecDepth 1000000 in
set_option maxHeartbeats 4000000 in
theorem main_ing (b o j c : Nat) (l : List UInt8) (w : World) (H : Hid (BS w b o (j + 4) l)) (hb : b < w.heap.size) (hnc : j + 4 ≤ c) (hcm : c ≤ maxLen) (h1 : Hid (cuts l (j + 4) sEED = false)) (h2 : Hid (cuts l (j + 4) sED = false)) (h3 : Hid (cuts l (j + 4) sING = true)) (hv : hvTo l (j + 1) = true)
    (hfz : w.frozen? ⟨b, o + (j + 1), none⟩ = false) :
    Calls Try.prog 27 #[.slice (some ⟨b, o, none⟩) (j + 4) c] w fun e w' => Post b o c l w (tailN l (j + 1)) e w' := by
  have hcm' := hcm
  unfold maxLen at hcm'
  have Hk : Hid (BS w b o (j + 1) l) := H.out.less (by omega)
  have hw1 : Hid (BS (w.alloc (.cells #[.string ⟨#[97, 116]⟩, .string ⟨#[98, 108]⟩, .string ⟨#[105, 122]⟩] 9)) b o (j + 1) l) := Hk.out.below ((Below.refl _ w).alloc (Nat.le_refl _) _) hb
  have hck := H.out.cell (j + 1) (by omega)
  have hcj := H.out.cell j (by omega)
  have hkc : j + 1 + 1 ≤ c := by omega
  obtain ⟨z, hz⟩ : ∃ z : Int, ((l.getD j 0).toNat : Int) = z := ⟨_, rfl⟩
  rw [hz] at hcj
  have HZ : Hid (((l.getD j 0).toNat : Int) = z) := hz
  clear hz
  go_enter Try.func27, Try.ntmps27
  go_wp2_with fail
  refine (cut_false b o (j + 4) c l _ w H.out hnc hcm (by decide) (by decide) h1.out).mono ?_
  rintro e w' ⟨rfl, hw⟩
  rw [hw]
  clear hw
  go_wp2_with fail
  refine (cut_false b o (j + 4) c l _ w H.out hnc hcm (by decide) (by decide) h2.out).mono ?_
  rintro e w' ⟨rfl, hw⟩
  rw [hw]
  clear hw
  go_wp2_with fail
  refine (cut_true b o (j + 4) c l _ w H.out hnc hcm (by decide) (by decide) h3.out).mono ?_
  rintro e w' ⟨rfl, hw⟩
  rw [hw]
  clear hw
  go_wp2_with fail
  refine (hasVowel_any b o (j + 1) c l w Hk (by omega)).mono ?_
  rintro e w' ⟨rfl, hw⟩
  rw [hw, hv]
  clear hw
  go_wp2_with fail
  refine wp_loop_rounds 4 ?_
  rw [rounds_succ]
  go_wp2_with fail
  cases ha : cuts l (j + 1) sAT
  case true =>
    refine (cut_true b o (j + 1) c l _ _ hw1.out (by omega) hcm (by decide) (by decide) ha).mono ?_
    rintro e w' ⟨rfl, hw⟩
    rw [hw]
    clear hw
    go_wp2_with fail
    go_ret
    exact post_add H.out (by omega) (Below.refl _ _) (tailN_sfx (Or.inl ha)) (((Below.refl _ _).alloc (by simp; omega) _).alloc (by simp; omega) _)
  refine (cut_false b o (j + 1) c l _ _ hw1.out (by omega) hcm (by decide) (by decide) ha).mono ?_
  rintro e w' ⟨rfl, hw⟩
  rw [hw]
  clear hw
  go_wp2_with fail
  rw [rounds_succ]
  go_wp2_with fail
  cases hl : cuts l (j + 1) sBL
  case true =>
    refine (cut_true b o (j + 1) c l _ _ hw1.out (by omega) hcm (by decide) (by decide) hl).mono ?_
    rintro e w' ⟨rfl, hw⟩
    rw [hw]
    clear hw
    go_wp2_with fail
    go_ret
    exact post_add H.out (by omega) (Below.refl _ _) (tailN_sfx (Or.inr (Or.inl hl))) (((Below.refl _ _).alloc (by simp; omega) _).alloc (by simp; omega) _)
  refine (cut_false b o (j + 1) c l _ _ hw1.out (by omega) hcm (by decide) (by decide) hl).mono ?_
  rintro e w' ⟨rfl, hw⟩
  rw [hw]
  clear hw
  go_wp2_with fail
  rw [rounds_succ]
  go_wp2_with fail
  cases hi : cuts l (j + 1) sIZ
  case true =>
    refine (cut_true b o (j + 1) c l _ _ hw1.out (by omega) hcm (by decide) (by decide) hi).mono ?_
    rintro e w' ⟨rfl, hw⟩
    rw [hw]
    clear hw
    go_wp2_with fail
    go_ret
    exact post_add H.out (by omega) (Below.refl _ _) (tailN_sfx (Or.inr (Or.inr hi))) (((Below.refl _ _).alloc (by simp; omega) _).alloc (by simp; omega) _)
  refine (cut_false b o (j + 1) c l _ _ hw1.out (by omega) hcm (by decide) (by decide) hi).mono ?_
  rintro e w' ⟨rfl, hw⟩
  rw [hw]
  clear hw
  have HN : Hid (cuts l (j + 1) sAT = false ∧ cuts l (j + 1) sBL = false ∧ cuts l (j + 1) sIZ = false) := ⟨ha, hl, hi⟩
  clear ha hl hi
  go_wp2_with fail
  rw [rounds_succ]
  go_wp2_with fail
  refine (endsDouble_any b o (j + 1) c l _ hw1.out (by omega)).mono ?_
  rintro e w' ⟨rfl, m, hw⟩
  rw [hw]
  clear hw
  have hw2 : Hid (BS ((w.alloc (.cells #[.string ⟨#[97, 116]⟩, .string ⟨#[98, 108]⟩, .string ⟨#[105, 122]⟩] 9)).drewN m) b o (j + 1) l) := hw1.out.below (drewN_below (b + 1) _ _) (by omega)
  clear hw1
  cases hd : endsDouble l (j + 1)
  case' true =>
    by_cases hk : z ≠ 108 ∧ z ≠ 115 ∧ z ≠ 122
    case pos =>
      obtain ⟨q1, q2, q3⟩ := hk
      have r1 : (z != 108) = true := by simpa using q1
      have r2 : (z != 115) = true := by simpa using q2
      have r3 : (z != 122) = true := by simpa using q3
      go_wp2_with fail
      go_ret
      exact post_same H.out (by omega) hb (tailN_double HN.out hd (lastOK_yes HZ.out q1 q2 q3)) (((Below.refl _ _).alloc (Nat.le_refl _) _).trans (drewN_below _ _ _))
    have hk' : z = 108 ∨ z = 115 ∨ z = 122 := by omega
    clear hk
    have HL : Hid (lastOK (l.getD j 0) = false) := lastOK_no HZ.out hk'
    rcases hk' with rfl | rfl | rfl
  case' false => skip
  all_goals
    go_wp2_with fail
    refine (measure_any b o (j + 1) c l _ hw2 (by omega) (by omega)).mono ?_
    rintro e w' ⟨rfl, hw⟩
    rw [hw]
    clear hw
    cases hm : ((measTo l (j + 1) : Int) == 1)
    case' true =>
      go_wp2_with fail
      refine (endsCVC_any b o (j + 1) c l _ hw2.out (by omega)).mono ?_
      rintro e w' ⟨rfl, hw⟩
      rw [hw]
      clear hw
      cases hq : endsCVC l (j + 1)
      case' true =>
        go_wp2_with fail
        go_ret
        have hbw : Below w.heap.size w ((w.alloc (.cells #[.string ⟨#[97, 116]⟩, .string ⟨#[98, 108]⟩, .string ⟨#[105, 122]⟩] 9)).drewN m) := ((Below.refl _ _).alloc (Nat.le_refl _) _).trans (drewN_below _ _ _)
        first
          | exact post_add (H.out.below hbw hb) (by omega) (hbw.mono (by omega)) (tailN_cvc HN.out (Or.inl hd) hm hq) ((Below.refl _ _).alloc (by simp; omega) _)
          | exact post_add (H.out.below hbw hb) (by omega) (hbw.mono (by omega)) (tailN_cvc HN.out (Or.inr HL.out) hm hq) ((Below.refl _ _).alloc (by simp; omega) _)
    all_goals
      go_wp2_with fail
      go_ret
      first
        | exact post_same H.out (by omega) hb (tailN_stem HN.out (Or.inl hd) (Or.inl hm)) (((Below.refl _ _).alloc (Nat.le_refl _) _).trans (drewN_below _ _ _))
        | exact post_same H.out (by omega) hb (tailN_stem HN.out (Or.inr HL.out) (Or.inl hm)) (((Below.refl _ _).alloc (Nat.le_refl _) _).trans (drewN_below _ _ _))
        | exact post_same H.out (by omega) hb (tailN_stem HN.out (Or.inl hd) (Or.inr hq)) (((Below.refl _ _).alloc (Nat.le_refl _) _).trans (drewN_below _ _ _))
        | exact post_same H.out (by omega) hb (tailN_stem HN.out (Or.inr HL.out) (Or.inr hq)) (((Below.refl _ _).alloc (Nat.le_refl _) _).trans (drewN_below _ _ _))

end Go.Proofs.Qxb6602085a
