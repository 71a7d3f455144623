/-
  WALKS (seat b6602085a): strings.ContainsRune at "aeiou", endsDouble, endsCVC.
-/
import Derived.Test.Qxb6602085aRune
import Derived.Test.Qxb6602085aWalkA
import Derived.Lib.IndexAny
import Derived.RegionTactic
namespace Go.Proofs.Qxb6602085a
open Go.RowKit Go.Lib

def vowels : ByteArray := ⟨#[97, 101, 105, 111, 117]⟩

theorem vow_contains (x : UInt8) : ([97, 101, 105, 111, 117] : List UInt8).contains x = isV x := by
  unfold isV
  rw [Bool.eq_iff_iff]
  simp [or_assoc]

theorem vow_ascii : ∀ (j : Nat) (b : UInt8), ([97, 101, 105, 111, 117] : List UInt8)[j]? = some b → b.toNat < 128 := by
  intro j b h
  match j, h with
  | 0, h => simp at h; subst h; decide
  | 1, h => simp at h; subst h; decide
  | 2, h => simp at h; subst h; decide
  | 3, h => simp at h; subst h; decide
  | 4, h => simp at h; subst h; decide
  | n + 5, h => simp at h

/-- strings.IndexRune of a rune of 128 to 255 in "aeiou": not there. -/
theorem vow_rune (r : Int) (w : World) (h1 : 128 ≤ r) (h2 : r ≤ 255) :
    Calls Try.prog 36 #[.string ⟨#[97, 101, 105, 111, 117]⟩, .int .i32 r] w fun e w' => e = .returned (.int .i64 (-1)) ∧ ∃ n, w' = w.drewN n := by
  have h2' : (r == 65533) = false := beq_eq_false_iff_ne.2 (by omega)
  have hv : Lib.validRune r = true := by
    unfold Lib.validRune
    simp
    omega
  obtain ⟨f1, f2, f3⟩ := encode_facts r (by rw [validRune_eq]; unfold Go.validRune; simp; omega) h1
  obtain ⟨E, hE⟩ : ∃ E, Utf8.encode r = E := ⟨_, rfl⟩
  obtain ⟨L, hL⟩ : ∃ L, E.size = L + 1 := ⟨E.size - 1, by rw [← hE]; omega⟩
  rw [hE] at f1 f2
  have hsz : (⟨#[97, 101, 105, 111, 117]⟩ : ByteArray).size = 5 := rfl
  have hl : L < (⟨#[97, 101, 105, 111, 117]⟩ : ByteArray).size := by rw [hsz]; omega
  have f3' := f3 (by rw [hE]; omega)
  obtain ⟨c, hc⟩ : ∃ c : UInt8, E[L]'(by omega) = c := ⟨_, rfl⟩
  have hc128 : 128 ≤ c.toNat := by
    rw [← hc]
    subst hE
    have e : (Utf8.encode r).size - 1 = L := by omega
    simpa [e] using f3'
  have hsl : ((⟨#[97, 101, 105, 111, 117]⟩ : ByteArray)[L]'hl).toNat < 128 := vow_ascii L _ (Lib.data_getElem? _ L hl)
  refine rune_ok_short _ E L c r w h1 h2' hv hE hL (by omega) hl (by rw [hsz]; omega) (fun w => ?_) ?_ ?_
  · rw [index_at E L (by omega) w, hc]
  · simp only [bne_iff_ne, ne_eq]; omega
  · refine indexByte_absent _ _ fun b hb hbc => ?_
    have hm := mem_extract hb
    obtain ⟨j, hj⟩ := List.mem_iff_getElem?.1 hm
    have := vow_ascii j b hj
    rw [hbc] at this
    omega

set_option maxRecDepth 1000000 in
set_option maxHeartbeats 400000 in
theorem contains_high (r : Int) (w : World) (h1 : 128 ≤ r) (h2 : r ≤ 255) :
    Calls Try.prog 35 #[.string ⟨#[97, 101, 105, 111, 117]⟩, .int .i32 r] w fun e w' => e = .returned (.bool false) ∧ ∃ n, w' = w.drewN n := by
  go_enter Try.func35, Try.ntmps35
  go_wp2_with (go_at_call 36; refine (vow_rune r _ h1 h2).mono ?_; rintro e w' ⟨rfl, hw⟩)
  go_ret
  exact ⟨rfl, hw⟩

theorem contains_any (x : UInt8) (w : World) :
    Calls Try.prog 35 #[.string ⟨#[97, 101, 105, 111, 117]⟩, .int .i32 x.toNat] w fun e w' => e = .returned (.bool (isV x)) ∧ ∃ n, w' = w.drewN n := by
  have hx := UInt8.toNat_lt x
  by_cases h : x.toNat < 128
  · refine (Try.strings_ContainsRune_ascii ⟨#[97, 101, 105, 111, 117]⟩ x.toNat w (by omega) (by omega)).mono fun e w' ⟨he, hw⟩ => ⟨?_, 0, hw⟩
    rw [he]
    refine ret_bool ?_
    rw [show ((x.toNat : Int)).toNat.toUInt8 = x by simp, ← vow_contains, contains_iff_indexByte]
  · have hf : isV x = false := by
      rw [← vow_contains]
      cases hc : ([97, 101, 105, 111, 117] : List UInt8).contains x with
      | false => rfl
      | true =>
        have hm : x ∈ ([97, 101, 105, 111, 117] : List UInt8) := by simpa using hc
        obtain ⟨j, hj⟩ := List.mem_iff_getElem?.1 hm
        exact absurd (vow_ascii j x hj) h
    rw [hf]
    exact contains_high x.toNat w (by omega) (by omega)

set_option maxRecDepth 1000000 in
set_option maxHeartbeats 400000 in
theorem endsDouble_short (a : Option Addr) (n c : Nat) (w : World) (hn : n < 2) :
    Calls Try.prog 32 #[.slice a n c] w fun e w' => e = .returned (.bool false) ∧ ∃ m, w' = w.drewN m := by
  have hd : decide ((2 : Int) ≤ (n : Int)) = false := decide_eq_false (by omega)
  go_enter Try.func32, Try.ntmps32
  go_wp2
  go_quiet (fail)
  go_wp2
  go_ret
  exact ⟨rfl, _, rfl⟩

set_option maxRecDepth 1000000 in
set_option maxHeartbeats 400000 in
theorem endsDouble_ne (b o k c : Nat) (x y : Int) (w : World) (hm : k + 2 ≤ maxLen) (hx : w.cell? ⟨b, o + (k + 1), none⟩ = some (.int .u8 x)) (hy : w.cell? ⟨b, o + k, none⟩ = some (.int .u8 y)) (hxy : (x == y) = false) :
    Calls Try.prog 32 #[.slice (some ⟨b, o, none⟩) (k + 2) c] w fun e w' => e = .returned (.bool false) ∧ ∃ m, w' = w.drewN m := by
  unfold maxLen at hm
  have hd : (2 : Int) ≤ (k : Int) + 2 := by omega
  have iw1 : IntKind.i64.wrap ((k : Int) + 2 - 1) = (k : Int) + 1 := by rw [wrap_small _ (by omega) (by omega)]; omega
  have iw2 : IntKind.i64.wrap ((k : Int) + 2 - 2) = (k : Int) := by rw [wrap_small _ (by omega) (by omega)]; omega
  have b1 : (k : Int) + 1 < (k : Int) + 2 := by omega
  have b2 : (k : Int) < (k : Int) + 2 := by omega
  have b3 : (0 : Int) ≤ (k : Int) + 1 := by omega
  go_enter Try.func32, Try.ntmps32
  go_wp2
  go_quiet (fail)
  go_wp2
  go_ret
  exact ⟨rfl, _, rfl⟩

set_option maxRecDepth 1000000 in
set_option maxHeartbeats 400000 in
theorem endsDouble_eq (b o k c : Nat) (z : UInt8) (w : World) (hm : k + 2 ≤ maxLen) (hx : w.cell? ⟨b, o + (k + 1), none⟩ = some (.int .u8 z.toNat)) (hy : w.cell? ⟨b, o + k, none⟩ = some (.int .u8 z.toNat)) :
    Calls Try.prog 32 #[.slice (some ⟨b, o, none⟩) (k + 2) c] w fun e w' => e = .returned (.bool (!isV z)) ∧ ∃ m, w' = w.drewN m := by
  unfold maxLen at hm
  have hz := UInt8.toNat_lt z
  have hd : (2 : Int) ≤ (k : Int) + 2 := by omega
  have iw1 : IntKind.i64.wrap ((k : Int) + 2 - 1) = (k : Int) + 1 := by rw [wrap_small _ (by omega) (by omega)]; omega
  have iw2 : IntKind.i64.wrap ((k : Int) + 2 - 2) = (k : Int) := by rw [wrap_small _ (by omega) (by omega)]; omega
  have b1 : (k : Int) + 1 < (k : Int) + 2 := by omega
  have b2 : (k : Int) < (k : Int) + 2 := by omega
  have b3 : (0 : Int) ≤ (k : Int) + 1 := by omega
  go_enter Try.func32, Try.ntmps32
  go_wp2
  go_quiet ((go_at_call 35; exact Calls.quiet_of (contains_any z _)))
  go_wp2
  go_ret
  exact ⟨rfl, _, rfl⟩

theorem endsDouble_any (b o n c : Nat) (l : List UInt8) (w : World) (H : BS w b o n l) (hm : n ≤ maxLen) :
    Calls Try.prog 32 #[.slice (some ⟨b, o, none⟩) n c] w fun e w' => e = .returned (.bool (endsDouble l n)) ∧ ∃ m, w' = w.drewN m := by
  by_cases hn : n < 2
  · have e : endsDouble l n = false := by unfold endsDouble; rw [decide_eq_false (by omega)]; rfl
    rw [e]
    exact endsDouble_short _ n c w hn
  · obtain ⟨k, rfl⟩ : ∃ k, n = k + 2 := ⟨n - 2, by omega⟩
    have h1 := H.cell (k + 1) (by omega)
    have h2 := H.cell k (by omega)
    have e : endsDouble l (k + 2) = (l.getD (k + 1) 0 == l.getD k 0 && !isV (l.getD (k + 1) 0)) := by
      unfold endsDouble
      rw [decide_eq_true (by omega), Bool.true_and]
      rfl
    rw [e]
    by_cases he : l.getD (k + 1) 0 = l.getD k 0
    · rw [← he] at h2
      rw [← he]
      simp only [BEq.rfl, Bool.true_and]
      exact endsDouble_eq b o k c _ w hm h1 h2
    · have hb : (l.getD (k + 1) 0 == l.getD k 0) = false := by simpa using he
      rw [hb, Bool.false_and]
      exact endsDouble_ne b o k c _ _ w hm h1 h2 (by rw [← beqInt]; exact hb)
end Go.Proofs.Qxb6602085a
