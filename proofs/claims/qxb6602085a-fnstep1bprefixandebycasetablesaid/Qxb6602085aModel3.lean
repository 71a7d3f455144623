/-
  WALKS (seat b6602085a): wb1Step1bModel, the short ways.
-/
import Derived.Test.Qxb6602085aModel2
namespace Go.Proofs.Qxb6602085a
open Go.RowKit Go.Lib

theorem ends_cut (b o n c : Nat) (l : List UInt8) (suf : ByteArray) (w : World) (v : Bool) (H : BS w b o n l) (hlt : suf.size < n) (hn : n ≤ 2097152) (hv : cuts l n suf.data.toList = v) :
    Calls Try.prog 23 #[.slice (some ⟨b, o, none⟩) n c, .string suf] w fun e w' => e = .returned (.bool v) ∧ ∃ q, w' = w.drewN q := by
  obtain ⟨f, rfl⟩ : ∃ f, n = f + suf.size := ⟨n - suf.size, by omega⟩
  have := endsWith_any b o f suf.size c l suf w H rfl hn
  have hsl : suf.data.toList.length = suf.size := by rw [← size_eq]
  rw [← cuts_ew l (f + suf.size) suf.data.toList (by omega), hv] at this
  exact this

/-- What the model hands back. -/
def MPost (w : World) (r : Nat × Bool) (e : Ending) (w' : World) : Prop := e = .returned (.tuple #[.int .i64 (r.1 : Int), .bool r.2]) ∧ Below w.heap.size w w'
/-- The world in the middle of the model's run. -/
structure MW (w wk : World) (b o N : Nat) (l : List UInt8) : Prop where
  below : Below w.heap.size w wk
  bs : BS wk b o N l
  crow : CRow wk w.heap.size N l
theorem MW.draw {w wk wn : World} {b o N : Nat} {l : List UInt8} (h : MW w wk b o N l) {q : Nat} (hw : wn = wk.drewN q) : MW w wn b o N l := by
  subst hw
  exact ⟨h.below.trans (drewN_below _ _ _), ⟨h.bs.len, h.bs.cell⟩, h.crow⟩
theorem MW.start {w wk : World} {b o N : Nat} {l : List UInt8} (H : BS w b o N l) (hb : b < w.heap.size) (h : Below w.heap.size w wk) (hc : CRow wk w.heap.size N l) : MW w wk b o N l :=
  ⟨h, H.below h hb, hc⟩
theorem mpost {w wk : World} {r : Nat × Bool} {k : Nat} {v : Bool} {z : Int} (h : Below w.heap.size w wk) (hr : r = (k, v)) (hz : z = (k : Int)) : MPost w r (.returned (.tuple #[.int .i64 z, .bool v])) wk := by
  subst hr
  subst hz
  exact ⟨rfl, h⟩

theorem wmeasure_z (B N n c : Nat) (z : Int) (l : List UInt8) (w : World) (H : Hid (CRow w B N l)) (hz : z = (n : Int)) (hn : n ≤ N) (h1 : 1 ≤ n) (hN : N ≤ 2097152) :
    Calls Try.prog 24 #[.slice (some ⟨B, 0, none⟩) N c, .int .i64 z] w fun e w' => e = .returned (.int .i64 (measTo l n)) ∧ w' = w := by
  subst hz
  exact wmeasure_any B N n c l w H hn h1 hN
theorem anyVowel_z (B N n c : Nat) (z : Int) (l : List UInt8) (w : World) (v : Bool) (H : Hid (CRow w B N l)) (hz : z = (n : Int)) (hn : n ≤ N) (hN : N ≤ 2097152) (hv : hvTo l n = v) :
    Calls Try.prog 25 #[.slice (some ⟨B, 0, none⟩) N c, .int .i64 z] w fun e w' => e = .returned (.bool v) ∧ w' = w := by
  subst hz
  subst hv
  exact anyVowel_any B N n c l w H hn hN

set_option maxRecDepth 1000000 in
set_option maxHeartbeats 1000000 in
theorem model_zero (a : Option Addr) (c : Nat) (w : World) :
    Calls Try.prog 12 #[.slice a 0 c] w fun e w' => MPost w (0, false) e w' := by
  go_enter Try.func12, Try.ntmps12
  go_wp2_with fail
  refine (consonants_zero a c w).mono ?_
  rintro e w' ⟨rfl, hb⟩
  have HB : Hid (Below w.heap.size w w') := hb
  clear hb
  go_wp2_with fail
  go_ret2
  exact ⟨rfl, HB.out⟩

set_option maxRecDepth 1000000 in
set_option maxHeartbeats 1000000 in
/-- One or two bytes: nothing is cut. -/
theorem model_two (b o n c : Nat) (l : List UInt8) (w : World) (H : Hid (BS w b o n l)) (hb : b < w.heap.size) (hn : n ≤ 2) :
    Calls Try.prog 12 #[.slice (some ⟨b, o, none⟩) n c] w fun e w' => MPost w (n, false) e w' := by
  go_enter Try.func12, Try.ntmps12
  go_wp2_with fail
  refine (consonants_any b o n c l w H hb (by omega)).mono ?_
  rintro e w' ⟨rfl, hb', hc'⟩
  have HM : Hid (MW w w' b o n l) := MW.start H.out hb hb' hc'
  clear hb' hc'
  go_wp2_with fail
  go_ret2
  exact mpost HM.out.below rfl (by omega)

set_option maxRecDepth 1000000 in
set_option maxHeartbeats 1000000 in
/-- .. eed. -/
theorem model_eed (b o j c : Nat) (l : List UInt8) (w : World) (H : Hid (BS w b o (j + 4) l)) (hb : b < w.heap.size) (hn : j + 4 ≤ 2097152) (h1 : Hid (cuts l (j + 4) sEED = true)) :
    Calls Try.prog 12 #[.slice (some ⟨b, o, none⟩) (j + 4) c] w fun e w' => MPost w (st l (j + 4)) e w' := by
  have est : Hid (st l (j + 4) = if 0 < measTo l (j + 1) then (j + 3, false) else (j + 4, false)) := by
    show st l (j + 4) = _
    unfold st
    rw [if_pos h1.out]
    rfl
  go_enter Try.func12, Try.ntmps12
  go_wp2_with fail
  refine (consonants_any b o (j + 4) c l w H hb (by omega)).mono ?_
  rintro e w' ⟨rfl, hb', hc'⟩
  have HM : Hid (MW w w' b o (j + 4) l) := MW.start H.out hb hb' hc'
  clear hb' hc'
  go_wp2_with fail
  refine (ends_cut b o (j + 4) c l ⟨#[101, 101, 100]⟩ w' true HM.out.bs (by show 3 < j + 4; omega) hn h1.out).mono ?_
  rintro e w1 ⟨rfl, q, hw⟩
  replace HM : Hid (MW w w1 b o (j + 4) l) := HM.out.draw hw
  clear hw
  go_wp2_with fail
  refine (wmeasure_z w.heap.size (j + 4) (j + 1) (j + 4) ((j : Int) + 4 - 3) l w1 HM.out.crow (by omega) (by omega) (by omega) (by omega)).mono ?_
  rintro e w2 ⟨rfl, hw⟩
  rw [hw]
  clear hw
  by_cases hm : 0 < measTo l (j + 1)
  · have hm' : (0 : Int) < (measTo l (j + 1) : Int) := by omega
    have HP : Hid (0 < measTo l (j + 1)) := hm
    clear hm
    generalize (measTo l (j + 1) : Int) = mm at hm'
    go_wp2_with fail
    go_ret2
    exact mpost HM.out.below (est.out.trans (if_pos HP.out)) (by omega)
  · have hm' : ¬ (0 : Int) < (measTo l (j + 1) : Int) := by omega
    have HP : Hid (¬ 0 < measTo l (j + 1)) := hm
    clear hm
    generalize (measTo l (j + 1) : Int) = mm at hm'
    go_wp2_with fail
    go_ret2
    exact mpost HM.out.below (est.out.trans (if_neg HP.out)) (by omega)
end Go.Proofs.Qxb6602085a
