/-
  WALKS (seat b6602085a): wb1Step1bModel where ing is cut.
-/
import Derived.Test.Qxb6602085aModel4
namespace Go.Proofs.Qxb6602085a
open Go.RowKit Go.Lib

set_option maxRecDepth 1000000 in
set_option maxHeartbeats 8000000 in
theorem model_ing1 (b o c : Nat) (l : List UInt8) (w : World) (H : Hid (BS w b o (4) l)) (hb : b < w.heap.size) (hc : 4 ≤ c) (h1 : Hid (cuts l (4) sEED = false)) (h2 : Hid (cuts l (4) sED = false)) (h3 : Hid (cuts l (4) sING = true)) :
    Calls Try.prog 12 #[.slice (some ⟨b, o, none⟩) (4) c] w fun e w' => MPost w (st l (4)) e w' := by
  have est : Hid (st l (4) = if hvTo l (1) then tailN l (1) else (4, false)) := by
    show st l (4) = _
    unfold st
    rw [if_neg (by rw [h1.out]; simp), if_neg (by rw [h2.out]; simp), if_pos h3.out]
  go_enter Try.func12, Try.ntmps12
  go_wp2_with fail
  refine (consonants_any b o (4) c l w H hb (by omega)).mono ?_
  rintro e w0 ⟨rfl, hb', hc'⟩
  have HM : Hid (MW w w0 b o (4) l) := MW.start H.out hb hb' hc'
  clear hb' hc'
  go_wp2_with fail
  refine (ends_cut b o (4) c l ⟨#[101, 101, 100]⟩ w0 false HM.out.bs (by show 3 < 4; omega) (by omega) h1.out).mono ?_
  rintro e w1 ⟨rfl, q, hw⟩
  replace HM : Hid (MW w w1 b o (4) l) := HM.out.draw hw
  clear hw
  go_wp2_with fail
  refine (ends_cut b o (4) c l ⟨#[101, 100]⟩ w1 false HM.out.bs (by show 2 < 4; omega) (by omega) h2.out).mono ?_
  rintro e w2 ⟨rfl, q, hw⟩
  replace HM : Hid (MW w w2 b o (4) l) := HM.out.draw hw
  clear hw
  go_wp2_with fail
  refine (ends_cut b o (4) c l ⟨#[105, 110, 103]⟩ w2 true HM.out.bs (by show 3 < 4; omega) (by omega) h3.out).mono ?_
  rintro e w3 ⟨rfl, q, hw⟩
  replace HM : Hid (MW w w3 b o (4) l) := HM.out.draw hw
  clear hw
  go_wp2_with fail
  cases hv : hvTo l (1)
  case false =>
    refine (anyVowel_z w.heap.size (4) (1) (4) _ l w3 false HM.out.crow (by omega) (by omega) (by omega) hv).mono ?_
    rintro e wv ⟨rfl, hw⟩
    rw [hw]
    clear hw
    go_wp2_with fail
    go_ret2
    exact mpost HM.out.below (by rw [est.out, hv]; rfl) (by omega)
  have est' : Hid (st l (4) = tailN l (1)) := by show _ = _; rw [est.out, hv]; rfl
  refine (anyVowel_z w.heap.size (4) (1) (4) _ l w3 true HM.out.crow (by omega) (by omega) (by omega) hv).mono ?_
  rintro e wv ⟨rfl, hw⟩
  rw [hw]
  clear hw
  have HS : Hid (cuts l 1 sAT = false ∧ cuts l 1 sBL = false ∧ cuts l 1 sIZ = false) := ⟨rfl, rfl, rfl⟩
  have hcz := HM.out.bs.cell (0) (by omega)
  obtain ⟨z, hz⟩ : ∃ z : Int, ((l.getD (0) 0).toNat : Int) = z := ⟨_, rfl⟩
  rw [hz] at hcz
  clear hz
  rw [Nat.add_zero] at hcz
  go_wp2_with fail
  go_ret2
  exact mpost HM.out.below (est'.out.trans (tailN_stem (j := 0) HS.out (Or.inl rfl) (Or.inr rfl))) (by omega)

set_option maxRecDepth 1000000 in
set_option maxHeartbeats 8000000 in
theorem model_ing2 (b o c : Nat) (l : List UInt8) (w : World) (H : Hid (BS w b o (5) l)) (hb : b < w.heap.size) (hc : 5 ≤ c) (h1 : Hid (cuts l (5) sEED = false)) (h2 : Hid (cuts l (5) sED = false)) (h3 : Hid (cuts l (5) sING = true)) :
    Calls Try.prog 12 #[.slice (some ⟨b, o, none⟩) (5) c] w fun e w' => MPost w (st l (5)) e w' := by
  have est : Hid (st l (5) = if hvTo l (2) then tailN l (2) else (5, false)) := by
    show st l (5) = _
    unfold st
    rw [if_neg (by rw [h1.out]; simp), if_neg (by rw [h2.out]; simp), if_pos h3.out]
  go_enter Try.func12, Try.ntmps12
  go_wp2_with fail
  refine (consonants_any b o (5) c l w H hb (by omega)).mono ?_
  rintro e w0 ⟨rfl, hb', hc'⟩
  have HM : Hid (MW w w0 b o (5) l) := MW.start H.out hb hb' hc'
  clear hb' hc'
  go_wp2_with fail
  refine (ends_cut b o (5) c l ⟨#[101, 101, 100]⟩ w0 false HM.out.bs (by show 3 < 5; omega) (by omega) h1.out).mono ?_
  rintro e w1 ⟨rfl, q, hw⟩
  replace HM : Hid (MW w w1 b o (5) l) := HM.out.draw hw
  clear hw
  go_wp2_with fail
  refine (ends_cut b o (5) c l ⟨#[101, 100]⟩ w1 false HM.out.bs (by show 2 < 5; omega) (by omega) h2.out).mono ?_
  rintro e w2 ⟨rfl, q, hw⟩
  replace HM : Hid (MW w w2 b o (5) l) := HM.out.draw hw
  clear hw
  go_wp2_with fail
  refine (ends_cut b o (5) c l ⟨#[105, 110, 103]⟩ w2 true HM.out.bs (by show 3 < 5; omega) (by omega) h3.out).mono ?_
  rintro e w3 ⟨rfl, q, hw⟩
  replace HM : Hid (MW w w3 b o (5) l) := HM.out.draw hw
  clear hw
  go_wp2_with fail
  cases hv : hvTo l (2)
  case false =>
    refine (anyVowel_z w.heap.size (5) (2) (5) _ l w3 false HM.out.crow (by omega) (by omega) (by omega) hv).mono ?_
    rintro e wv ⟨rfl, hw⟩
    rw [hw]
    clear hw
    go_wp2_with fail
    go_ret2
    exact mpost HM.out.below (by rw [est.out, hv]; rfl) (by omega)
  have est' : Hid (st l (5) = tailN l (2)) := by show _ = _; rw [est.out, hv]; rfl
  refine (anyVowel_z w.heap.size (5) (2) (5) _ l w3 true HM.out.crow (by omega) (by omega) (by omega) hv).mono ?_
  rintro e wv ⟨rfl, hw⟩
  rw [hw]
  clear hw
  have HS : Hid (cuts l 2 sAT = false ∧ cuts l 2 sBL = false ∧ cuts l 2 sIZ = false) := ⟨rfl, rfl, rfl⟩
  have hcz := HM.out.bs.cell (1) (by omega)
  obtain ⟨z, hz⟩ : ∃ z : Int, ((l.getD (1) 0).toNat : Int) = z := ⟨_, rfl⟩
  rw [hz] at hcz
  have HZ : Hid (((l.getD (1) 0).toNat : Int) = z) := hz
  clear hz
  have hct := HM.out.bs.cell (0) (by omega)
  obtain ⟨t, ht⟩ : ∃ t : Int, ((l.getD (0) 0).toNat : Int) = t := ⟨_, rfl⟩
  rw [ht] at hct
  have HD : Hid (endsDouble l (2) = ((t == z) && !isV (l.getD (1) 0))) := dbl_eq HZ.out ht
  clear ht
  rw [Nat.add_zero] at hct
  cases hd : (t == z)
  case false =>
    have HF : Hid (endsDouble l (2) = false ∨ lastOK (l.getD (1) 0) = false) := Or.inl (by rw [HD.out, hd]; rfl)
    go_wp2_with fail
    go_ret2
    exact mpost HM.out.below (est'.out.trans (tailN_stem (j := 1) HS.out HF.out (Or.inr rfl))) (by omega)
  go_wp2_with fail
  cases hV : isV (l.getD (1) 0)
  case true =>
    refine (aeiou_z (l.getD (1) 0) z _ true HZ.out hV).mono ?_
    rintro e wv ⟨rfl, hw⟩
    rw [hw]
    clear hw
    have HF : Hid (endsDouble l (2) = false ∨ lastOK (l.getD (1) 0) = false) := Or.inl (by rw [HD.out, hd, hV]; rfl)
    go_wp2_with fail
    go_ret2
    exact mpost HM.out.below (est'.out.trans (tailN_stem (j := 1) HS.out HF.out (Or.inr rfl))) (by omega)
  refine (aeiou_z (l.getD (1) 0) z _ false HZ.out hV).mono ?_
  rintro e wv ⟨rfl, hw⟩
  rw [hw]
  clear hw
  by_cases g108 : z = 108
  · have HF : Hid (endsDouble l (2) = false ∨ lastOK (l.getD (1) 0) = false) := Or.inr (lastOK_no HZ.out (Or.inl g108))
    go_wp2_with fail
    go_ret2
    exact mpost HM.out.below (est'.out.trans (tailN_stem (j := 1) HS.out HF.out (Or.inr rfl))) (by omega)
  by_cases g115 : z = 115
  · have HF : Hid (endsDouble l (2) = false ∨ lastOK (l.getD (1) 0) = false) := Or.inr (lastOK_no HZ.out (Or.inr (Or.inl g115)))
    go_wp2_with fail
    go_ret2
    exact mpost HM.out.below (est'.out.trans (tailN_stem (j := 1) HS.out HF.out (Or.inr rfl))) (by omega)
  by_cases g122 : z = 122
  · have HF : Hid (endsDouble l (2) = false ∨ lastOK (l.getD (1) 0) = false) := Or.inr (lastOK_no HZ.out (Or.inr (Or.inr g122)))
    go_wp2_with fail
    go_ret2
    exact mpost HM.out.below (est'.out.trans (tailN_stem (j := 1) HS.out HF.out (Or.inr rfl))) (by omega)
  have HL : Hid (lastOK (l.getD (1) 0) = true) := lastOK_yes HZ.out g108 g115 g122
  have HF : Hid (endsDouble l (2) = true) := by show _ = _; rw [HD.out, hd, hV]; rfl
  have n108 : (z != 108) = true := by simp [g108]
  have n115 : (z != 115) = true := by simp [g115]
  have n122 : (z != 122) = true := by simp [g122]
  go_wp2_with fail
  go_ret2
  exact mpost HM.out.below (est'.out.trans (tailN_double (j := 1) HS.out HF.out HL.out)) (by omega)
end Go.Proofs.Qxb6602085a
