/-
  WALKS (seat b6602085a): wb1Step1bModel where ed is cut.
-/
import Derived.Test.Qxb6602085aModel4
namespace Go.Proofs.Qxb6602085a
open Go.RowKit Go.Lib

set_option maxRecDepth 1000000 in
set_option maxHeartbeats 8000000 in
theorem model_ed3 (b o i c : Nat) (l : List UInt8) (w : World) (H : Hid (BS w b o (i + 5) l)) (hb : b < w.heap.size) (hn : i + 5 ≤ 4096) (hc : i + 5 ≤ c) (h1 : Hid (cuts l (i + 5) sEED = false)) (h2 : Hid (cuts l (i + 5) sED = true)) :
    Calls Try.prog 12 #[.slice (some ⟨b, o, none⟩) (i + 5) c] w fun e w' => MPost w (st l (i + 5)) e w' := by
  have est : Hid (st l (i + 5) = if hvTo l (i + 3) then tailN l (i + 3) else (i + 5, false)) := by
    show st l (i + 5) = _
    unfold st
    rw [if_neg (by rw [h1.out]; simp), if_pos h2.out]
    rfl
  have iw : IntKind.i64.wrap ((i : Int) + 5 - 2) = (i : Int) + 3 := by rw [show (i : Int) + 5 - 2 = (i : Int) + 3 by omega]; exact wrap_small _ (by omega) (by omega)
  have iw1 : IntKind.i64.wrap ((i : Int) + 3 - 1) = (i : Int) + 2 := by rw [show (i : Int) + 3 - 1 = (i : Int) + 2 by omega]; exact wrap_small _ (by omega) (by omega)
  have iw2 : IntKind.i64.wrap ((i : Int) + 3 - 2) = (i : Int) + 1 := by rw [show (i : Int) + 3 - 2 = (i : Int) + 1 by omega]; exact wrap_small _ (by omega) (by omega)
  have iw3 : IntKind.i64.wrap ((i : Int) + 3 - 3) = (i : Int) := by rw [show (i : Int) + 3 - 3 = (i : Int) by omega]; exact wrap_small _ (by omega) (by omega)
  go_enter Try.func12, Try.ntmps12
  go_wp2_with fail
  refine (consonants_any b o (i + 5) c l w H hb (by omega)).mono ?_
  rintro e w0 ⟨rfl, hb', hc'⟩
  have HM : Hid (MW w w0 b o (i + 5) l) := MW.start H.out hb hb' hc'
  clear hb' hc'
  go_wp2_with fail
  refine (ends_cut b o (i + 5) c l ⟨#[101, 101, 100]⟩ w0 false HM.out.bs (by show 3 < i + 5; omega) (by omega) h1.out).mono ?_
  rintro e w1 ⟨rfl, q, hw⟩
  replace HM : Hid (MW w w1 b o (i + 5) l) := HM.out.draw hw
  clear hw
  go_wp2_with fail
  refine (ends_cut b o (i + 5) c l ⟨#[101, 100]⟩ w1 true HM.out.bs (by show 2 < i + 5; omega) (by omega) h2.out).mono ?_
  rintro e w2 ⟨rfl, q, hw⟩
  replace HM : Hid (MW w w2 b o (i + 5) l) := HM.out.draw hw
  clear hw
  go_wp2_with fail
  cases hv : hvTo l (i + 3)
  case false =>
    refine (anyVowel_z w.heap.size (i + 5) (i + 3) (i + 5) _ l w2 false HM.out.crow (by omega) (by omega) (by omega) hv).mono ?_
    rintro e wv ⟨rfl, hw⟩
    rw [hw]
    clear hw
    go_wp2_with fail
    go_ret2
    exact mpost HM.out.below (by rw [est.out, hv]; rfl) (by omega)
  have est' : Hid (st l (i + 5) = tailN l (i + 3)) := by show _ = _; rw [est.out, hv]; rfl
  refine (anyVowel_z w.heap.size (i + 5) (i + 3) (i + 5) _ l w2 true HM.out.crow (by omega) (by omega) (by omega) hv).mono ?_
  rintro e wv ⟨rfl, hw⟩
  rw [hw]
  clear hw
  go_wp2_with fail
  cases hAT : cuts l (i + 3) sAT
  case true =>
    refine (ends_cut b o (i + 3) c l ⟨#[97, 116]⟩ w2 true (HM.out.bs.less (by omega)) (by show 2 < i + 3; omega) (by omega) hAT).mono ?_
    rintro e u1 ⟨rfl, q, hw⟩
    replace HM : Hid (MW w u1 b o (i + 5) l) := HM.out.draw hw
    clear hw
    go_wp2_with fail
    go_ret2
    exact mpost HM.out.below (est'.out.trans (tailN_sfx (Or.inl hAT))) (by omega)
  refine (ends_cut b o (i + 3) c l ⟨#[97, 116]⟩ w2 false (HM.out.bs.less (by omega)) (by show 2 < i + 3; omega) (by omega) hAT).mono ?_
  rintro e u1 ⟨rfl, q, hw⟩
  replace HM : Hid (MW w u1 b o (i + 5) l) := HM.out.draw hw
  clear hw
  go_wp2_with fail
  cases hBL : cuts l (i + 3) sBL
  case true =>
    refine (ends_cut b o (i + 3) c l ⟨#[98, 108]⟩ u1 true (HM.out.bs.less (by omega)) (by show 2 < i + 3; omega) (by omega) hBL).mono ?_
    rintro e u2 ⟨rfl, q, hw⟩
    replace HM : Hid (MW w u2 b o (i + 5) l) := HM.out.draw hw
    clear hw
    go_wp2_with fail
    go_ret2
    exact mpost HM.out.below (est'.out.trans (tailN_sfx (Or.inr (Or.inl hBL)))) (by omega)
  refine (ends_cut b o (i + 3) c l ⟨#[98, 108]⟩ u1 false (HM.out.bs.less (by omega)) (by show 2 < i + 3; omega) (by omega) hBL).mono ?_
  rintro e u2 ⟨rfl, q, hw⟩
  replace HM : Hid (MW w u2 b o (i + 5) l) := HM.out.draw hw
  clear hw
  go_wp2_with fail
  cases hIZ : cuts l (i + 3) sIZ
  case true =>
    refine (ends_cut b o (i + 3) c l ⟨#[105, 122]⟩ u2 true (HM.out.bs.less (by omega)) (by show 2 < i + 3; omega) (by omega) hIZ).mono ?_
    rintro e u3 ⟨rfl, q, hw⟩
    replace HM : Hid (MW w u3 b o (i + 5) l) := HM.out.draw hw
    clear hw
    go_wp2_with fail
    go_ret2
    exact mpost HM.out.below (est'.out.trans (tailN_sfx (Or.inr (Or.inr hIZ)))) (by omega)
  refine (ends_cut b o (i + 3) c l ⟨#[105, 122]⟩ u2 false (HM.out.bs.less (by omega)) (by show 2 < i + 3; omega) (by omega) hIZ).mono ?_
  rintro e u3 ⟨rfl, q, hw⟩
  replace HM : Hid (MW w u3 b o (i + 5) l) := HM.out.draw hw
  clear hw
  have HS : Hid (cuts l (i + 3) sAT = false ∧ cuts l (i + 3) sBL = false ∧ cuts l (i + 3) sIZ = false) := ⟨hAT, hBL, hIZ⟩
  clear hAT hBL hIZ
  have hcz := HM.out.bs.cell (i + 2) (by omega)
  obtain ⟨z, hz⟩ : ∃ z : Int, ((l.getD (i + 2) 0).toNat : Int) = z := ⟨_, rfl⟩
  rw [hz] at hcz
  have HZ : Hid (((l.getD (i + 2) 0).toNat : Int) = z) := hz
  clear hz
  have hct := HM.out.bs.cell (i + 1) (by omega)
  obtain ⟨t, ht⟩ : ∃ t : Int, ((l.getD (i + 1) 0).toNat : Int) = t := ⟨_, rfl⟩
  rw [ht] at hct
  have HD : Hid (endsDouble l (i + 3) = ((t == z) && !isV (l.getD (i + 2) 0))) := dbl_eq HZ.out ht
  clear ht
  cases hd : (t == z)
  case false =>
    have HF : Hid (endsDouble l (i + 3) = false ∨ lastOK (l.getD (i + 2) 0) = false) := Or.inl (by rw [HD.out, hd]; rfl)
    go_wp2_with fail
    refine (wmeasure_z w.heap.size (i + 5) (i + 3) (i + 5) _ l u3 HM.out.crow (by omega) (by omega) (by omega) (by omega)).mono ?_
    rintro e wv ⟨rfl, hw⟩
    rw [hw]
    clear hw
    have ci := World.rowIs.cell HM.out.crow (show i < i + 5 by omega)
    have ci1 := World.rowIs.cell HM.out.crow (show i + 1 < i + 5 by omega)
    have ci2 := World.rowIs.cell HM.out.crow (show i + 2 < i + 5 by omega)
    have HC : Hid (endsCVC l (i + 3) = (cons l i && !cons l (i + 1) && cons l (i + 2) && !(z == 119) && !(z == 120) && !(z == 121))) := cvc_eq HZ.out
    obtain ⟨mm, hmm⟩ : ∃ mm : Int, (measTo l (i + 3) : Int) = mm := ⟨_, rfl⟩
    rw [hmm]
    cases hm1 : (mm == 1)
    case false =>
      have HQ : Hid (((measTo l (i + 3) : Int) == 1) = false) := by show _ = _; rw [hmm]; exact hm1
      clear hmm
      go_wp2_with fail
      go_ret2
      exact mpost HM.out.below (est'.out.trans (tailN_stem (j := i + 2) HS.out HF.out (Or.inl HQ.out))) (by omega)
    have HQ : Hid (((measTo l (i + 3) : Int) == 1) = true) := by show _ = _; rw [hmm]; exact hm1
    clear hmm
    cases p0 : cons l (i)
    case false =>
      rw [p0] at ci
      have HE : Hid (endsCVC l (i + 3) = false) := by show _ = _; rw [HC.out, p0]; simp
      go_wp2_with fail
      go_ret2
      exact mpost HM.out.below (est'.out.trans (tailN_stem (j := i + 2) HS.out HF.out (Or.inr HE.out))) (by omega)
    rw [p0] at ci
    cases p1 : cons l (i + 1)
    case true =>
      rw [p1] at ci1
      have HE : Hid (endsCVC l (i + 3) = false) := by show _ = _; rw [HC.out, p0, p1]; simp
      go_wp2_with fail
      go_ret2
      exact mpost HM.out.below (est'.out.trans (tailN_stem (j := i + 2) HS.out HF.out (Or.inr HE.out))) (by omega)
    rw [p1] at ci1
    cases p2 : cons l (i + 2)
    case false =>
      rw [p2] at ci2
      have HE : Hid (endsCVC l (i + 3) = false) := by show _ = _; rw [HC.out, p0, p1, p2]; simp
      go_wp2_with fail
      go_ret2
      exact mpost HM.out.below (est'.out.trans (tailN_stem (j := i + 2) HS.out HF.out (Or.inr HE.out))) (by omega)
    rw [p2] at ci2
    by_cases e119 : z = 119
    · subst e119
      have HE : Hid (endsCVC l (i + 3) = false) := by show _ = _; rw [HC.out]; simp
      go_wp2_with fail
      go_ret2
      exact mpost HM.out.below (est'.out.trans (tailN_stem (j := i + 2) HS.out HF.out (Or.inr HE.out))) (by omega)
    by_cases e120 : z = 120
    · subst e120
      have HE : Hid (endsCVC l (i + 3) = false) := by show _ = _; rw [HC.out]; simp
      go_wp2_with fail
      go_ret2
      exact mpost HM.out.below (est'.out.trans (tailN_stem (j := i + 2) HS.out HF.out (Or.inr HE.out))) (by omega)
    by_cases e121 : z = 121
    · subst e121
      have HE : Hid (endsCVC l (i + 3) = false) := by show _ = _; rw [HC.out]; simp
      go_wp2_with fail
      go_ret2
      exact mpost HM.out.below (est'.out.trans (tailN_stem (j := i + 2) HS.out HF.out (Or.inr HE.out))) (by omega)
    have HE : Hid (endsCVC l (i + 3) = true) := by show _ = _; rw [HC.out, p0, p1, p2]; simp [e119, e120, e121]
    have n119 : (z != 119) = true := by simp [e119]
    have n120 : (z != 120) = true := by simp [e120]
    have n121 : (z != 121) = true := by simp [e121]
    go_wp2_with fail
    go_ret2
    exact mpost HM.out.below (est'.out.trans (tailN_cvc (j := i + 2) HS.out HF.out HQ.out HE.out)) (by omega)
  go_wp2_with fail
  cases hV : isV (l.getD (i + 2) 0)
  case true =>
    refine (aeiou_z (l.getD (i + 2) 0) z _ true HZ.out hV).mono ?_
    rintro e wv ⟨rfl, hw⟩
    rw [hw]
    clear hw
    have HF : Hid (endsDouble l (i + 3) = false ∨ lastOK (l.getD (i + 2) 0) = false) := Or.inl (by rw [HD.out, hd, hV]; rfl)
    go_wp2_with fail
    refine (wmeasure_z w.heap.size (i + 5) (i + 3) (i + 5) _ l u3 HM.out.crow (by omega) (by omega) (by omega) (by omega)).mono ?_
    rintro e wv ⟨rfl, hw⟩
    rw [hw]
    clear hw
    have ci := World.rowIs.cell HM.out.crow (show i < i + 5 by omega)
    have ci1 := World.rowIs.cell HM.out.crow (show i + 1 < i + 5 by omega)
    have ci2 := World.rowIs.cell HM.out.crow (show i + 2 < i + 5 by omega)
    have HC : Hid (endsCVC l (i + 3) = (cons l i && !cons l (i + 1) && cons l (i + 2) && !(z == 119) && !(z == 120) && !(z == 121))) := cvc_eq HZ.out
    obtain ⟨mm, hmm⟩ : ∃ mm : Int, (measTo l (i + 3) : Int) = mm := ⟨_, rfl⟩
    rw [hmm]
    cases hm1 : (mm == 1)
    case false =>
      have HQ : Hid (((measTo l (i + 3) : Int) == 1) = false) := by show _ = _; rw [hmm]; exact hm1
      clear hmm
      go_wp2_with fail
      go_ret2
      exact mpost HM.out.below (est'.out.trans (tailN_stem (j := i + 2) HS.out HF.out (Or.inl HQ.out))) (by omega)
    have HQ : Hid (((measTo l (i + 3) : Int) == 1) = true) := by show _ = _; rw [hmm]; exact hm1
    clear hmm
    cases p0 : cons l (i)
    case false =>
      rw [p0] at ci
      have HE : Hid (endsCVC l (i + 3) = false) := by show _ = _; rw [HC.out, p0]; simp
      go_wp2_with fail
      go_ret2
      exact mpost HM.out.below (est'.out.trans (tailN_stem (j := i + 2) HS.out HF.out (Or.inr HE.out))) (by omega)
    rw [p0] at ci
    cases p1 : cons l (i + 1)
    case true =>
      rw [p1] at ci1
      have HE : Hid (endsCVC l (i + 3) = false) := by show _ = _; rw [HC.out, p0, p1]; simp
      go_wp2_with fail
      go_ret2
      exact mpost HM.out.below (est'.out.trans (tailN_stem (j := i + 2) HS.out HF.out (Or.inr HE.out))) (by omega)
    rw [p1] at ci1
    cases p2 : cons l (i + 2)
    case false =>
      rw [p2] at ci2
      have HE : Hid (endsCVC l (i + 3) = false) := by show _ = _; rw [HC.out, p0, p1, p2]; simp
      go_wp2_with fail
      go_ret2
      exact mpost HM.out.below (est'.out.trans (tailN_stem (j := i + 2) HS.out HF.out (Or.inr HE.out))) (by omega)
    rw [p2] at ci2
    by_cases e119 : z = 119
    · subst e119
      have HE : Hid (endsCVC l (i + 3) = false) := by show _ = _; rw [HC.out]; simp
      go_wp2_with fail
      go_ret2
      exact mpost HM.out.below (est'.out.trans (tailN_stem (j := i + 2) HS.out HF.out (Or.inr HE.out))) (by omega)
    by_cases e120 : z = 120
    · subst e120
      have HE : Hid (endsCVC l (i + 3) = false) := by show _ = _; rw [HC.out]; simp
      go_wp2_with fail
      go_ret2
      exact mpost HM.out.below (est'.out.trans (tailN_stem (j := i + 2) HS.out HF.out (Or.inr HE.out))) (by omega)
    by_cases e121 : z = 121
    · subst e121
      have HE : Hid (endsCVC l (i + 3) = false) := by show _ = _; rw [HC.out]; simp
      go_wp2_with fail
      go_ret2
      exact mpost HM.out.below (est'.out.trans (tailN_stem (j := i + 2) HS.out HF.out (Or.inr HE.out))) (by omega)
    have HE : Hid (endsCVC l (i + 3) = true) := by show _ = _; rw [HC.out, p0, p1, p2]; simp [e119, e120, e121]
    have n119 : (z != 119) = true := by simp [e119]
    have n120 : (z != 120) = true := by simp [e120]
    have n121 : (z != 121) = true := by simp [e121]
    go_wp2_with fail
    go_ret2
    exact mpost HM.out.below (est'.out.trans (tailN_cvc (j := i + 2) HS.out HF.out HQ.out HE.out)) (by omega)
  refine (aeiou_z (l.getD (i + 2) 0) z _ false HZ.out hV).mono ?_
  rintro e wv ⟨rfl, hw⟩
  rw [hw]
  clear hw
  by_cases g108 : z = 108
  · have HF : Hid (endsDouble l (i + 3) = false ∨ lastOK (l.getD (i + 2) 0) = false) := Or.inr (lastOK_no HZ.out (Or.inl g108))
    go_wp2_with fail
    refine (wmeasure_z w.heap.size (i + 5) (i + 3) (i + 5) _ l u3 HM.out.crow (by omega) (by omega) (by omega) (by omega)).mono ?_
    rintro e wv ⟨rfl, hw⟩
    rw [hw]
    clear hw
    have ci := World.rowIs.cell HM.out.crow (show i < i + 5 by omega)
    have ci1 := World.rowIs.cell HM.out.crow (show i + 1 < i + 5 by omega)
    have ci2 := World.rowIs.cell HM.out.crow (show i + 2 < i + 5 by omega)
    have HC : Hid (endsCVC l (i + 3) = (cons l i && !cons l (i + 1) && cons l (i + 2) && !(z == 119) && !(z == 120) && !(z == 121))) := cvc_eq HZ.out
    obtain ⟨mm, hmm⟩ : ∃ mm : Int, (measTo l (i + 3) : Int) = mm := ⟨_, rfl⟩
    rw [hmm]
    cases hm1 : (mm == 1)
    case false =>
      have HQ : Hid (((measTo l (i + 3) : Int) == 1) = false) := by show _ = _; rw [hmm]; exact hm1
      clear hmm
      go_wp2_with fail
      go_ret2
      exact mpost HM.out.below (est'.out.trans (tailN_stem (j := i + 2) HS.out HF.out (Or.inl HQ.out))) (by omega)
    have HQ : Hid (((measTo l (i + 3) : Int) == 1) = true) := by show _ = _; rw [hmm]; exact hm1
    clear hmm
    cases p0 : cons l (i)
    case false =>
      rw [p0] at ci
      have HE : Hid (endsCVC l (i + 3) = false) := by show _ = _; rw [HC.out, p0]; simp
      go_wp2_with fail
      go_ret2
      exact mpost HM.out.below (est'.out.trans (tailN_stem (j := i + 2) HS.out HF.out (Or.inr HE.out))) (by omega)
    rw [p0] at ci
    cases p1 : cons l (i + 1)
    case true =>
      rw [p1] at ci1
      have HE : Hid (endsCVC l (i + 3) = false) := by show _ = _; rw [HC.out, p0, p1]; simp
      go_wp2_with fail
      go_ret2
      exact mpost HM.out.below (est'.out.trans (tailN_stem (j := i + 2) HS.out HF.out (Or.inr HE.out))) (by omega)
    rw [p1] at ci1
    cases p2 : cons l (i + 2)
    case false =>
      rw [p2] at ci2
      have HE : Hid (endsCVC l (i + 3) = false) := by show _ = _; rw [HC.out, p0, p1, p2]; simp
      go_wp2_with fail
      go_ret2
      exact mpost HM.out.below (est'.out.trans (tailN_stem (j := i + 2) HS.out HF.out (Or.inr HE.out))) (by omega)
    rw [p2] at ci2
    by_cases e119 : z = 119
    · subst e119
      have HE : Hid (endsCVC l (i + 3) = false) := by show _ = _; rw [HC.out]; simp
      go_wp2_with fail
      go_ret2
      exact mpost HM.out.below (est'.out.trans (tailN_stem (j := i + 2) HS.out HF.out (Or.inr HE.out))) (by omega)
    by_cases e120 : z = 120
    · subst e120
      have HE : Hid (endsCVC l (i + 3) = false) := by show _ = _; rw [HC.out]; simp
      go_wp2_with fail
      go_ret2
      exact mpost HM.out.below (est'.out.trans (tailN_stem (j := i + 2) HS.out HF.out (Or.inr HE.out))) (by omega)
    by_cases e121 : z = 121
    · subst e121
      have HE : Hid (endsCVC l (i + 3) = false) := by show _ = _; rw [HC.out]; simp
      go_wp2_with fail
      go_ret2
      exact mpost HM.out.below (est'.out.trans (tailN_stem (j := i + 2) HS.out HF.out (Or.inr HE.out))) (by omega)
    have HE : Hid (endsCVC l (i + 3) = true) := by show _ = _; rw [HC.out, p0, p1, p2]; simp [e119, e120, e121]
    have n119 : (z != 119) = true := by simp [e119]
    have n120 : (z != 120) = true := by simp [e120]
    have n121 : (z != 121) = true := by simp [e121]
    go_wp2_with fail
    go_ret2
    exact mpost HM.out.below (est'.out.trans (tailN_cvc (j := i + 2) HS.out HF.out HQ.out HE.out)) (by omega)
  by_cases g115 : z = 115
  · have HF : Hid (endsDouble l (i + 3) = false ∨ lastOK (l.getD (i + 2) 0) = false) := Or.inr (lastOK_no HZ.out (Or.inr (Or.inl g115)))
    go_wp2_with fail
    refine (wmeasure_z w.heap.size (i + 5) (i + 3) (i + 5) _ l u3 HM.out.crow (by omega) (by omega) (by omega) (by omega)).mono ?_
    rintro e wv ⟨rfl, hw⟩
    rw [hw]
    clear hw
    have ci := World.rowIs.cell HM.out.crow (show i < i + 5 by omega)
    have ci1 := World.rowIs.cell HM.out.crow (show i + 1 < i + 5 by omega)
    have ci2 := World.rowIs.cell HM.out.crow (show i + 2 < i + 5 by omega)
    have HC : Hid (endsCVC l (i + 3) = (cons l i && !cons l (i + 1) && cons l (i + 2) && !(z == 119) && !(z == 120) && !(z == 121))) := cvc_eq HZ.out
    obtain ⟨mm, hmm⟩ : ∃ mm : Int, (measTo l (i + 3) : Int) = mm := ⟨_, rfl⟩
    rw [hmm]
    cases hm1 : (mm == 1)
    case false =>
      have HQ : Hid (((measTo l (i + 3) : Int) == 1) = false) := by show _ = _; rw [hmm]; exact hm1
      clear hmm
      go_wp2_with fail
      go_ret2
      exact mpost HM.out.below (est'.out.trans (tailN_stem (j := i + 2) HS.out HF.out (Or.inl HQ.out))) (by omega)
    have HQ : Hid (((measTo l (i + 3) : Int) == 1) = true) := by show _ = _; rw [hmm]; exact hm1
    clear hmm
    cases p0 : cons l (i)
    case false =>
      rw [p0] at ci
      have HE : Hid (endsCVC l (i + 3) = false) := by show _ = _; rw [HC.out, p0]; simp
      go_wp2_with fail
      go_ret2
      exact mpost HM.out.below (est'.out.trans (tailN_stem (j := i + 2) HS.out HF.out (Or.inr HE.out))) (by omega)
    rw [p0] at ci
    cases p1 : cons l (i + 1)
    case true =>
      rw [p1] at ci1
      have HE : Hid (endsCVC l (i + 3) = false) := by show _ = _; rw [HC.out, p0, p1]; simp
      go_wp2_with fail
      go_ret2
      exact mpost HM.out.below (est'.out.trans (tailN_stem (j := i + 2) HS.out HF.out (Or.inr HE.out))) (by omega)
    rw [p1] at ci1
    cases p2 : cons l (i + 2)
    case false =>
      rw [p2] at ci2
      have HE : Hid (endsCVC l (i + 3) = false) := by show _ = _; rw [HC.out, p0, p1, p2]; simp
      go_wp2_with fail
      go_ret2
      exact mpost HM.out.below (est'.out.trans (tailN_stem (j := i + 2) HS.out HF.out (Or.inr HE.out))) (by omega)
    rw [p2] at ci2
    by_cases e119 : z = 119
    · subst e119
      have HE : Hid (endsCVC l (i + 3) = false) := by show _ = _; rw [HC.out]; simp
      go_wp2_with fail
      go_ret2
      exact mpost HM.out.below (est'.out.trans (tailN_stem (j := i + 2) HS.out HF.out (Or.inr HE.out))) (by omega)
    by_cases e120 : z = 120
    · subst e120
      have HE : Hid (endsCVC l (i + 3) = false) := by show _ = _; rw [HC.out]; simp
      go_wp2_with fail
      go_ret2
      exact mpost HM.out.below (est'.out.trans (tailN_stem (j := i + 2) HS.out HF.out (Or.inr HE.out))) (by omega)
    by_cases e121 : z = 121
    · subst e121
      have HE : Hid (endsCVC l (i + 3) = false) := by show _ = _; rw [HC.out]; simp
      go_wp2_with fail
      go_ret2
      exact mpost HM.out.below (est'.out.trans (tailN_stem (j := i + 2) HS.out HF.out (Or.inr HE.out))) (by omega)
    have HE : Hid (endsCVC l (i + 3) = true) := by show _ = _; rw [HC.out, p0, p1, p2]; simp [e119, e120, e121]
    have n119 : (z != 119) = true := by simp [e119]
    have n120 : (z != 120) = true := by simp [e120]
    have n121 : (z != 121) = true := by simp [e121]
    go_wp2_with fail
    go_ret2
    exact mpost HM.out.below (est'.out.trans (tailN_cvc (j := i + 2) HS.out HF.out HQ.out HE.out)) (by omega)
  by_cases g122 : z = 122
  · have HF : Hid (endsDouble l (i + 3) = false ∨ lastOK (l.getD (i + 2) 0) = false) := Or.inr (lastOK_no HZ.out (Or.inr (Or.inr g122)))
    go_wp2_with fail
    refine (wmeasure_z w.heap.size (i + 5) (i + 3) (i + 5) _ l u3 HM.out.crow (by omega) (by omega) (by omega) (by omega)).mono ?_
    rintro e wv ⟨rfl, hw⟩
    rw [hw]
    clear hw
    have ci := World.rowIs.cell HM.out.crow (show i < i + 5 by omega)
    have ci1 := World.rowIs.cell HM.out.crow (show i + 1 < i + 5 by omega)
    have ci2 := World.rowIs.cell HM.out.crow (show i + 2 < i + 5 by omega)
    have HC : Hid (endsCVC l (i + 3) = (cons l i && !cons l (i + 1) && cons l (i + 2) && !(z == 119) && !(z == 120) && !(z == 121))) := cvc_eq HZ.out
    obtain ⟨mm, hmm⟩ : ∃ mm : Int, (measTo l (i + 3) : Int) = mm := ⟨_, rfl⟩
    rw [hmm]
    cases hm1 : (mm == 1)
    case false =>
      have HQ : Hid (((measTo l (i + 3) : Int) == 1) = false) := by show _ = _; rw [hmm]; exact hm1
      clear hmm
      go_wp2_with fail
      go_ret2
      exact mpost HM.out.below (est'.out.trans (tailN_stem (j := i + 2) HS.out HF.out (Or.inl HQ.out))) (by omega)
    have HQ : Hid (((measTo l (i + 3) : Int) == 1) = true) := by show _ = _; rw [hmm]; exact hm1
    clear hmm
    cases p0 : cons l (i)
    case false =>
      rw [p0] at ci
      have HE : Hid (endsCVC l (i + 3) = false) := by show _ = _; rw [HC.out, p0]; simp
      go_wp2_with fail
      go_ret2
      exact mpost HM.out.below (est'.out.trans (tailN_stem (j := i + 2) HS.out HF.out (Or.inr HE.out))) (by omega)
    rw [p0] at ci
    cases p1 : cons l (i + 1)
    case true =>
      rw [p1] at ci1
      have HE : Hid (endsCVC l (i + 3) = false) := by show _ = _; rw [HC.out, p0, p1]; simp
      go_wp2_with fail
      go_ret2
      exact mpost HM.out.below (est'.out.trans (tailN_stem (j := i + 2) HS.out HF.out (Or.inr HE.out))) (by omega)
    rw [p1] at ci1
    cases p2 : cons l (i + 2)
    case false =>
      rw [p2] at ci2
      have HE : Hid (endsCVC l (i + 3) = false) := by show _ = _; rw [HC.out, p0, p1, p2]; simp
      go_wp2_with fail
      go_ret2
      exact mpost HM.out.below (est'.out.trans (tailN_stem (j := i + 2) HS.out HF.out (Or.inr HE.out))) (by omega)
    rw [p2] at ci2
    by_cases e119 : z = 119
    · subst e119
      have HE : Hid (endsCVC l (i + 3) = false) := by show _ = _; rw [HC.out]; simp
      go_wp2_with fail
      go_ret2
      exact mpost HM.out.below (est'.out.trans (tailN_stem (j := i + 2) HS.out HF.out (Or.inr HE.out))) (by omega)
    by_cases e120 : z = 120
    · subst e120
      have HE : Hid (endsCVC l (i + 3) = false) := by show _ = _; rw [HC.out]; simp
      go_wp2_with fail
      go_ret2
      exact mpost HM.out.below (est'.out.trans (tailN_stem (j := i + 2) HS.out HF.out (Or.inr HE.out))) (by omega)
    by_cases e121 : z = 121
    · subst e121
      have HE : Hid (endsCVC l (i + 3) = false) := by show _ = _; rw [HC.out]; simp
      go_wp2_with fail
      go_ret2
      exact mpost HM.out.below (est'.out.trans (tailN_stem (j := i + 2) HS.out HF.out (Or.inr HE.out))) (by omega)
    have HE : Hid (endsCVC l (i + 3) = true) := by show _ = _; rw [HC.out, p0, p1, p2]; simp [e119, e120, e121]
    have n119 : (z != 119) = true := by simp [e119]
    have n120 : (z != 120) = true := by simp [e120]
    have n121 : (z != 121) = true := by simp [e121]
    go_wp2_with fail
    go_ret2
    exact mpost HM.out.below (est'.out.trans (tailN_cvc (j := i + 2) HS.out HF.out HQ.out HE.out)) (by omega)
  have HL : Hid (lastOK (l.getD (i + 2) 0) = true) := lastOK_yes HZ.out g108 g115 g122
  have HF : Hid (endsDouble l (i + 3) = true) := by show _ = _; rw [HD.out, hd, hV]; rfl
  have n108 : (z != 108) = true := by simp [g108]
  have n115 : (z != 115) = true := by simp [g115]
  have n122 : (z != 122) = true := by simp [g122]
  go_wp2_with fail
  go_ret2
  exact mpost HM.out.below (est'.out.trans (tailN_double (j := i + 2) HS.out HF.out HL.out)) (by omega)
end Go.Proofs.Qxb6602085a
