/-
  WALKS (seat b6602085a): wb1Step1bModel where nothing is cut; wb1PrefixPlusE.
-/
import Derived.Test.Qxb6602085aModel4
import Derived.Test.Qxb6602085aLaw5
namespace Go.Proofs.Qxb6602085a
open Go.RowKit Go.Lib

set_option maxRecDepth 1000000 in
set_option maxHeartbeats 1000000 in
theorem model_none3 (b o c : Nat) (l : List UInt8) (w : World) (H : Hid (BS w b o 3 l)) (hb : b < w.heap.size) (h2 : Hid (cuts l 3 sED = false)) :
    Calls Try.prog 12 #[.slice (some ⟨b, o, none⟩) 3 c] w fun e w' => MPost w (3, false) e w' := by
  go_enter Try.func12, Try.ntmps12
  go_wp2_with fail
  refine (consonants_any b o 3 c l w H hb (by omega)).mono ?_
  rintro e w0 ⟨rfl, hb', hc'⟩
  have HM : Hid (MW w w0 b o 3 l) := MW.start H.out hb hb' hc'
  clear hb' hc'
  go_wp2_with fail
  refine (ends_cut b o 3 c l ⟨#[101, 100]⟩ w0 false HM.out.bs (by show 2 < 3; omega) (by omega) h2.out).mono ?_
  rintro e w2 ⟨rfl, q, hw⟩
  replace HM : Hid (MW w w2 b o 3 l) := HM.out.draw hw
  clear hw
  go_wp2_with fail
  go_ret2
  exact mpost HM.out.below rfl (by omega)

set_option maxRecDepth 1000000 in
set_option maxHeartbeats 1000000 in
theorem model_none4 (b o j c : Nat) (l : List UInt8) (w : World) (H : Hid (BS w b o (j + 4) l)) (hb : b < w.heap.size) (hn : j + 4 ≤ 4096) (h1 : Hid (cuts l (j + 4) sEED = false)) (h2 : Hid (cuts l (j + 4) sED = false)) (h3 : Hid (cuts l (j + 4) sING = false)) :
    Calls Try.prog 12 #[.slice (some ⟨b, o, none⟩) (j + 4) c] w fun e w' => MPost w (j + 4, false) e w' := by
  go_enter Try.func12, Try.ntmps12
  go_wp2_with fail
  refine (consonants_any b o (j + 4) c l w H hb (by omega)).mono ?_
  rintro e w0 ⟨rfl, hb', hc'⟩
  have HM : Hid (MW w w0 b o (j + 4) l) := MW.start H.out hb hb' hc'
  clear hb' hc'
  go_wp2_with fail
  refine (ends_cut b o (j + 4) c l ⟨#[101, 101, 100]⟩ w0 false HM.out.bs (by show 3 < j + 4; omega) (by omega) h1.out).mono ?_
  rintro e w1 ⟨rfl, q, hw⟩
  replace HM : Hid (MW w w1 b o (j + 4) l) := HM.out.draw hw
  clear hw
  go_wp2_with fail
  refine (ends_cut b o (j + 4) c l ⟨#[101, 100]⟩ w1 false HM.out.bs (by show 2 < j + 4; omega) (by omega) h2.out).mono ?_
  rintro e w2 ⟨rfl, q, hw⟩
  replace HM : Hid (MW w w2 b o (j + 4) l) := HM.out.draw hw
  clear hw
  go_wp2_with fail
  refine (ends_cut b o (j + 4) c l ⟨#[105, 110, 103]⟩ w2 false HM.out.bs (by show 3 < j + 4; omega) (by omega) h3.out).mono ?_
  rintro e w3 ⟨rfl, q, hw⟩
  replace HM : Hid (MW w w3 b o (j + 4) l) := HM.out.draw hw
  clear hw
  go_wp2_with fail
  go_ret2
  exact mpost HM.out.below rfl (by omega)

set_option maxRecDepth 1000000 in
set_option maxHeartbeats 1000000 in
/-- The first k bytes of two slices agree. -/
theorem ppe_false (gb g gc sb s sc n k : Nat) (l : List UInt8) (w : World) (HG : Hid (BS w gb g k l)) (HS : Hid (BS w sb s n l)) (hk : k ≤ n) (hn : n ≤ 4096) :
    Calls Try.prog 14 #[.slice (some ⟨gb, g, none⟩) k gc, .slice (some ⟨sb, s, none⟩) n sc, .int .i64 (k : Int), .bool false] w fun e w' => e = .returned (.bool true) ∧ ∃ q, w' = w.drewN q := by
  go_enter Try.func14, Try.ntmps14
  go_wp2
  go_loopw [10] (fun i wr => ∃ i' : Nat, i' ≤ k ∧ i = .int .i64 i' ∧ Hid (∃ q, wr = w.drewN q)) (fun i _ => k - (RowKit.intOf i).toNat)
  case atStart => exact ⟨0, Nat.zero_le _, rfl, ⟨0, rfl⟩⟩
  case round =>
    obtain ⟨i, hi, rfl, HM⟩ := hrel
    obtain ⟨q, hq⟩ := HM.out
    clear HM
    subst hq
    by_cases hlt : i < k
    · have c1 := HG.out.cell i hlt
      have c2 := HS.out.cell i (by omega)
      obtain ⟨z, hz⟩ : ∃ z : Int, ((l.getD i 0).toNat : Int) = z := ⟨_, rfl⟩
      rw [hz] at c1 c2
      clear hz
      have b1 : (i : Int) < (k : Int) := by omega
      have b2 : (i : Int) < (n : Int) := by omega
      have b3 : (0 : Int) ≤ (i : Int) := by omega
      go_wp2_with fail
      go_quiet (fail)
      go_wp2
      go_roundw
      case rel => exact ⟨i + 1, by omega, by go_num, ⟨_, rfl⟩⟩
      case measure => simp [RowKit.intOf]; omega
    · go_wp2
      go_ret
      exact ⟨rfl, _, rfl⟩

set_option maxRecDepth 1000000 in
set_option maxHeartbeats 1000000 in
/-- .. and an e behind them. -/
theorem ppe_true (gb g gc sb s sc n k : Nat) (l : List UInt8) (w : World) (HG : Hid (BS w gb g (k + 1) (l.take k ++ [101]))) (HS : Hid (BS w sb s n l)) (hk : k ≤ n) (hn : n ≤ 4096) :
    Calls Try.prog 14 #[.slice (some ⟨gb, g, none⟩) (k + 1) gc, .slice (some ⟨sb, s, none⟩) n sc, .int .i64 (k : Int), .bool true] w fun e w' => e = .returned (.bool true) ∧ ∃ q, w' = w.drewN q := by
  have hle := HS.out.len
  go_enter Try.func14, Try.ntmps14
  go_wp2
  go_loopw [10] (fun i wr => ∃ i' : Nat, i' ≤ k ∧ i = .int .i64 i' ∧ Hid (∃ q, wr = w.drewN q)) (fun i _ => k - (RowKit.intOf i).toNat)
  case atStart => exact ⟨0, Nat.zero_le _, rfl, ⟨0, rfl⟩⟩
  case round =>
    obtain ⟨i, hi, rfl, HM⟩ := hrel
    obtain ⟨q, hq⟩ := HM.out
    clear HM
    subst hq
    by_cases hlt : i < k
    · have c1 := HG.out.cell i (by omega)
      have c2 := HS.out.cell i (by omega)
      rw [app_lo _ _ _ (by rw [List.length_take]; omega), take_getD _ _ _ hlt] at c1
      obtain ⟨z, hz⟩ : ∃ z : Int, ((l.getD i 0).toNat : Int) = z := ⟨_, rfl⟩
      rw [hz] at c1 c2
      clear hz
      have b1 : (i : Int) < (k : Int) + 1 := by omega
      have b2 : (i : Int) < (n : Int) := by omega
      have b3 : (0 : Int) ≤ (i : Int) := by omega
      go_wp2_with fail
      go_quiet (fail)
      go_wp2
      go_roundw
      case rel => exact ⟨i + 1, by omega, by go_num, ⟨_, rfl⟩⟩
      case measure => simp [RowKit.intOf]; omega
    · obtain rfl : i = k := by omega
      have c1 := HG.out.cell i (by omega)
      have h1 := app_hi (l.take i) [101] 0
      rw [List.length_take, Nat.min_eq_left (by omega)] at h1
      have h2 : (l.take i ++ [101]).getD i 0 = 101 := h1
      rw [h2] at c1
      have c3 : w.cell? ⟨gb, g + i, none⟩ = some (.int .u8 101) := c1
      clear c1 h1 h2
      go_wp2
      go_ret
      exact ⟨rfl, _, rfl⟩

set_option maxRecDepth 1000000 in
set_option maxHeartbeats 1000000 in
theorem ppe_zero (a a' : Option Addr) (c c' : Nat) (w : World) :
    Calls Try.prog 14 #[.slice a 0 c, .slice a' 0 c', .int .i64 0, .bool false] w fun e w' => e = .returned (.bool true) ∧ w' = w := by
  go_enter Try.func14, Try.ntmps14
  go_wp2
  refine wp_loop_rounds 1 ?_
  rw [rounds_succ]
  go_wp2
  go_ret
  exact ⟨rfl, rfl⟩
end Go.Proofs.Qxb6602085a
