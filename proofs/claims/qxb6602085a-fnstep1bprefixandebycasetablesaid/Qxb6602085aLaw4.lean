/-
  The walk of FnStep1bPrefixAndEByCaseTable (seat b6602085a).
-/
import Derived.Test.Qxb6602085aModel5
import Derived.Test.Qxb6602085aModel6
import Derived.Test.Qxb6602085aModel7
import Derived.Test.Qxb6602085aModel8
namespace Go.Proofs.Qxb6602085a
open Go.RowKit Go.Lib

theorem cuts_sz {l suf : List UInt8} {n : Nat} (h : n ≤ suf.length) : cuts l n suf = false := by
  unfold cuts
  rw [decide_eq_false (by omega)]
  rfl
theorem st_none {l : List UInt8} {n : Nat} (h1 : cuts l n sEED = false) (h2 : cuts l n sED = false) (h3 : cuts l n sING = false) : st l n = (n, false) := by
  unfold st
  rw [if_neg (by rw [h1]; simp), if_neg (by rw [h2]; simp), if_neg (by rw [h3]; simp)]
theorem st_le (l : List UInt8) (n : Nat) : (st l n).1 ≤ n := by
  unfold st
  have h2 := tailN_le l (n - 2)
  have h3 := tailN_le l (n - 3)
  repeat' split
  all_goals first | exact Nat.le_refl _ | exact Nat.sub_le _ _ | omega

/-- wb1Step1bModel, whole. -/
theorem model_any (b o n c : Nat) (l : List UInt8) (w : World) (H : BS w b o n l) (hb : b < w.heap.size) (hn : n ≤ 4096) (hc : n ≤ c) :
    Calls Try.prog 12 #[.slice (some ⟨b, o, none⟩) n c] w fun e w' => MPost w (st l n) e w' := by
  by_cases h2 : n ≤ 2
  · rw [st_none (cuts_sz (by show n ≤ 3; omega)) (cuts_sz h2) (cuts_sz (by show n ≤ 3; omega))]
    exact model_two b o n c l w H hb h2
  by_cases h3 : n = 3
  · subst h3
    cases hd : cuts l 3 sED
    · rw [st_none (cuts_sz (Nat.le_refl 3)) hd (cuts_sz (Nat.le_refl 3))]
      exact model_none3 b o c l w H hb hd
    · exact model_ed1 b o c l w H hb hc (cuts_sz (Nat.le_refl 3)) hd
  obtain ⟨j, rfl⟩ : ∃ j, n = j + 4 := ⟨n - 4, by omega⟩
  cases he : cuts l (j + 4) sEED
  case true => exact model_eed b o j c l w H hb (by omega) he
  cases hd : cuts l (j + 4) sED
  case true =>
    match j, H, hn, hc, he, hd with
    | 0, H, _, hc, he, hd => exact model_ed2 b o c l w H hb hc he hd
    | i + 1, H, hn, hc, he, hd => exact model_ed3 b o i c l w H hb hn hc he hd
  cases hg : cuts l (j + 4) sING
  case true =>
    match j, H, hn, hc, he, hd, hg with
    | 0, H, _, hc, he, hd, hg => exact model_ing1 b o c l w H hb hc he hd hg
    | 1, H, _, hc, he, hd, hg => exact model_ing2 b o c l w H hb hc he hd hg
    | i + 2, H, hn, hc, he, hd, hg => exact model_ing3 b o i c l w H hb hn hc he hd hg
  rw [st_none he hd hg]
  exact model_none4 b o j c l w H hb hn he hd hg

set_option maxHeartbeats 400000 in
theorem law4_big1 (a : Option Addr) (n c : Nat) (w : World) (h : 1048576 < n) :
    Calls Try.prog 4 #[.slice a n c] w fun e w' => e = .returned (.bool true) ∧ Below w.heap.size w w' := by
  go_enter Try.func4, Try.ntmps4
  go_wp2_with (go_at_call 11; refine (guard4_no a n c _ h).mono ?_; rintro e w' ⟨rfl, rfl⟩)
  go_ret
  exact ⟨rfl, Below.refl _ _⟩
set_option maxHeartbeats 400000 in
theorem law4_big2 (a : Option Addr) (n c : Nat) (w : World) (h : n ≤ 1048576) (h2 : 4096 < n) :
    Calls Try.prog 4 #[.slice a n c] w fun e w' => e = .returned (.bool true) ∧ Below w.heap.size w w' := by
  go_enter Try.func4, Try.ntmps4
  go_wp2_with (go_at_call 11; refine (guard4_yes a n c _ h).mono ?_; rintro e w' ⟨rfl, rfl⟩)
  go_ret
  exact ⟨rfl, Below.refl _ _⟩

theorem zz_zero (a : Option Addr) (c : Nat) (w : World) :
    Calls Try.prog 13 #[.slice a 0 c] w fun e w' => e = .returned (.slice a 0 c) ∧ w' = w := by
  refine (zz_of a 0 c w (fun v w' => v = .slice a 0 c ∧ w' = w) ⟨a, 0, c, fun v w' h => h.1⟩ ((step_short a 0 c w (by omega)).mono fun e w' h => ⟨_, h.1, rfl, h.2⟩)).mono ?_
  rintro e w' ⟨v, rfl, rfl, rfl⟩
  exact ⟨rfl, rfl⟩

set_option maxRecDepth 1000000 in
set_option maxHeartbeats 1000000 in
theorem law4_nil (c : Nat) (w : World) :
    Calls Try.prog 4 #[.slice none 0 c] w fun e w' => e = .returned (.bool true) ∧ Below w.heap.size w w' := by
  go_enter Try.func4, Try.ntmps4
  go_wp2_with fail
  refine (guard4_yes none 0 c w (by omega)).mono ?_
  rintro e w' ⟨rfl, hw⟩
  rw [hw]
  clear hw
  go_wp2_with fail
  refine (model_zero none c w).mono ?_
  rintro e w1 ⟨rfl, hb1⟩
  have HB : Hid (Below w.heap.size w w1) := hb1
  clear hb1
  go_wp2_with fail
  refine (clone_nil 0 c w1).mono ?_
  rintro e w' ⟨rfl, hw⟩
  rw [hw]
  clear hw
  go_wp2_with fail
  refine (zz_zero none 0 w1).mono ?_
  rintro e w' ⟨rfl, hw⟩
  rw [hw]
  clear hw
  go_wp2_with fail
  refine (ppe_zero none none 0 c w1).mono ?_
  rintro e w' ⟨rfl, hw⟩
  rw [hw]
  clear hw
  go_wp2_with fail
  go_ret
  exact ⟨rfl, HB.out⟩

set_option maxRecDepth 1000000 in
set_option maxHeartbeats 1000000 in
theorem law4_zero (x : Addr) (c : Nat) (w : World) :
    Calls Try.prog 4 #[.slice (some x) 0 c] w fun e w' => e = .returned (.bool true) ∧ Below w.heap.size w w' := by
  go_enter Try.func4, Try.ntmps4
  go_wp2_with fail
  refine (guard4_yes (some x) 0 c w (by omega)).mono ?_
  rintro e w' ⟨rfl, hw⟩
  rw [hw]
  clear hw
  go_wp2_with fail
  refine (model_zero (some x) c w).mono ?_
  rintro e w1 ⟨rfl, hb1⟩
  have HB : Hid (Below w.heap.size w w1) := hb1
  clear hb1
  go_wp2_with fail
  refine (clone_zero x c w1).mono ?_
  rintro e w2 ⟨rfl, hb2⟩
  have HB2 : Hid (Below w.heap.size w w2) := HB.out.trans (hb2.mono HB.out.size)
  clear hb2 HB
  go_wp2_with fail
  refine (zz_zero (some ⟨w1.heap.size, 0, none⟩) 0 w2).mono ?_
  rintro e w' ⟨rfl, hw⟩
  rw [hw]
  clear hw
  go_wp2_with fail
  refine (ppe_zero (some ⟨w1.heap.size, 0, none⟩) (some x) 0 c w2).mono ?_
  rintro e w' ⟨rfl, hw⟩
  rw [hw]
  clear hw
  go_wp2_with fail
  go_ret
  exact ⟨rfl, HB2.out⟩

set_option maxRecDepth 1000000 in
set_option maxHeartbeats 2000000 in
theorem law4_main (b o n c : Nat) (l : List UInt8) (w : World) (H : Hid (BS w b o n l)) (hb : b < w.heap.size) (h : n ≤ 4096) (hc : n ≤ c) :
    Calls Try.prog 4 #[.slice (some ⟨b, o, none⟩) n c] w fun e w' => e = .returned (.bool true) ∧ Below w.heap.size w w' := by
  have hmax : Hid (n ≤ maxLen) := by show n ≤ maxLen; unfold maxLen; omega
  obtain ⟨k, v, hr⟩ : ∃ k v, st l n = (k, v) := ⟨(st l n).1, (st l n).2, rfl⟩
  have hkn : k ≤ n := by have := st_le l n; rw [hr] at this; exact this
  have HR : Hid (st l n = (k, v)) := hr
  clear hr
  go_enter Try.func4, Try.ntmps4
  go_wp2_with fail
  refine (guard4_yes (some ⟨b, o, none⟩) n c w (by omega)).mono ?_
  rintro e w' ⟨rfl, hw⟩
  rw [hw]
  clear hw
  go_wp2_with fail
  refine (model_any b o n c l w H.out hb h hc).mono ?_
  rw [HR.out]
  rintro e w1 ⟨rfl, hb1⟩
  have HB : Hid (Below w.heap.size w w1) := hb1
  clear hb1
  go_wp2_with fail
  refine (clone_any b o n c l w1 (H.out.below HB.out hb) (Nat.lt_of_lt_of_le hb HB.out.size) (by omega)).mono ?_
  rintro e w2 ⟨rfl, hb2, hr2⟩
  have HB2 : Hid (Below w.heap.size w w2) := HB.out.trans (hb2.mono HB.out.size)
  have HR2 : Hid (Row w2 w1.heap.size n l) := hr2
  clear hb2 hr2
  go_wp2_with fail
  refine (zz_any w1.heap.size n l w2 HR2.out H.out.len hmax.out).mono ?_
  rw [HR.out]
  rintro e w3 ⟨m, hm, rfl, hb3, hbs⟩
  have HB3 : Hid (Below w.heap.size w w3) := HB2.out.trans (hb3.mono HB.out.size)
  have HS3 : Hid (BS w3 b o n l) := H.out.below HB3.out hb
  clear hb3
  cases v
  · have hm' : m = k := hm
    clear hm
    subst hm'
    have HG : Hid (BS w3 w1.heap.size 0 m l) := hbs
    clear hbs
    go_wp2_with fail
    refine (ppe_false w1.heap.size 0 n b o c n m l w3 HG HS3 hkn h).mono ?_
    rintro e w4 ⟨rfl, q, hw⟩
    rw [hw]
    clear hw
    go_wp2_with fail
    go_ret
    exact ⟨rfl, HB3.out.trans (drewN_below _ _ _)⟩
  · have hm' : m = k + 1 := hm
    clear hm
    subst hm'
    have HG : Hid (BS w3 w1.heap.size 0 (k + 1) (l.take k ++ [101])) := hbs
    clear hbs
    go_wp2_with fail
    refine (ppe_true w1.heap.size 0 n b o c n k l w3 HG HS3 hkn h).mono ?_
    rintro e w4 ⟨rfl, q, hw⟩
    rw [hw]
    clear hw
    go_wp2_with fail
    go_ret
    exact ⟨rfl, HB3.out.trans (drewN_below _ _ _)⟩
end Go.Proofs.Qxb6602085a
