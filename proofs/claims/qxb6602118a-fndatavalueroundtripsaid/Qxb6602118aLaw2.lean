/-
  The walk of FnDataValueRoundTrip (seat b6602118a): a payload of one byte or more.
-/
import Derived.Test.Qxb6602118aLaw
namespace Go.Proofs.Qxb6602118a
open Go.RowKit Go.Lib

set_option maxRecDepth 1000000 in
set_option maxHeartbeats 4000000 in
theorem law_big (a : Option Addr) (n c : Nat) (s : Bool) (w : World) (h : 1048576 < n) :
    Calls Try.prog 3 #[.slice a n c, .bool s] w fun e w' => e = .returned (.bool true) ∧ Below w.heap.size w w' := by
  go_enter Try.func3, Try.ntmps3
  go_wp2_with (go_at_call 4; refine (guard_no a n c s w h).mono ?_; rintro e w' ⟨rfl, hw⟩; rw [hw]; clear hw)
  go_ret
  exact ⟨rfl, Below.refl _ _⟩

set_option maxRecDepth 1000000 in
set_option maxHeartbeats 4000000 in
/-- Without the space, at a payload that begins with one: nothing is asked. -/
theorem law_skip (b o n c : Nat) (w : World) (hn1 : 1 ≤ n) (hn : n ≤ 1048576) (hc0 : w.cell? ⟨b, o, none⟩ = some (.int .u8 32)) :
    Calls Try.prog 3 #[.slice (some ⟨b, o, none⟩) n c, .bool false] w fun e w' => e = .returned (.bool true) ∧ Below w.heap.size w w' := by
  go_enter Try.func3, Try.ntmps3
  go_wp2_with (go_at_call 4; refine (guard_yes (some ⟨b, o, none⟩) n c false w hn).mono ?_; rintro e w' ⟨rfl, hw⟩; rw [hw]; clear hw)
  go_ret
  exact ⟨rfl, Below.refl _ _⟩

set_option maxRecDepth 1000000 in
set_option maxHeartbeats 4000000 in
theorem law_plain (b o n c : Nat) (ps : List Int) (w : World) (hx : ps.length = n) (H : Hid (NS w b o ps)) (hb : b < w.heap.size) (hn1 : 1 ≤ n) (hn : n ≤ 1048576) (z : Int) (hz : (z == 32) = false) (hc0 : w.cell? ⟨b, o, none⟩ = some (.int .u8 z))
    (HT : Hid (∀ z r, ps = z :: r → ¬ z = 32 ∧ 0 ≤ z ∧ z < 256)) :
    Calls Try.prog 3 #[.slice (some ⟨b, o, none⟩) n c, .bool false] w fun e w' => e = .returned (.bool true) ∧ Below w.heap.size w w' := by
  have hmk := run_make_row' (P := Try.prog) 22 5 (.int .u8 0) 1 Try.underlying22 Try.info5 rfl .i64 .i64 n (by omega) (by omega)
  obtain ⟨i0, hi, hz0, hz1, hz2⟩ := info_parts Try.info5
  go_enter Try.func3, Try.ntmps3
  go_wp2_with (go_at_call 4; refine (guard_yes (some ⟨b, o, none⟩) n c false w hn).mono ?_; rintro e w' ⟨rfl, hw⟩; rw [hw]; clear hw)
  go_loopw [6] (fun i wr => ∃ k : Nat, k ≤ n ∧ i = .int .i64 k ∧ Hid (Below w.heap.size w wr) ∧ Hid (Part wr w.heap.size n k ps)) (fun i _ => n - (RowKit.intOf i).toNat)
  case atStart => exact ⟨0, Nat.zero_le _, rfl, (Below.refl _ _).alloc (Nat.le_refl _) _, (World.rowIs_made w (.int .u8 0) n 5).congr fun i _ => by simp⟩
  case round =>
    obtain ⟨k, hk, rfl, HB, HR⟩ := hrel
    by_cases hlt : k < n
    · have hcx : wr.cell? ⟨b, o + k, none⟩ = some (.int .u8 (ps.getD k 0)) := by rw [HB.out.cell (p := ⟨b, o + k, none⟩) hb]; exact H.out k (by omega)
      have hcd := World.rowIs.cell HR.out hlt
      have hfd := World.rowIs.frozen HR.out k
      obtain ⟨y, hy⟩ : ∃ y : Int, ps.getD k 0 = y := ⟨_, rfl⟩
      rw [hy] at hcx
      have HY : Hid (ps.getD k 0 = y) := hy
      clear hy
      go_wp2
      go_roundw
      case rel => exact ⟨k + 1, by omega, by go_num, HB.out.setCell (Nat.le_refl _) _, Part.next HY.out HR.out⟩
      case measure => simp [RowKit.intOf]; omega
    · obtain rfl : k = n := by omega
      have hBl : Hid (w.heap.size < wr.heap.size) := World.rowIs.lt HR.out
      have HN : Hid (NS wr w.heap.size 0 ps) := Part.ns HR.out hx
      clear HR
      go_wp2_with (first
        | (at_make; refine wpList_make_own _ rfl _ _ 22 rfl w.heap.size 5 i0 (.int .u8 0) 1 Try.underlying22 hi hz0 hz1 .i64 .i64 _ (k + 6) rfl rfl (by omega) (by rw [hz2]; omega) (by unfold maxLen; omega) HB.out.size ?_; intro w1 hown1 hgrow1)
        | (at_builtin; refine wpList_append_fits _ rfl (.tmp 53) (.tmp 54) 22 rfl w.heap.size 5 i0 1 Try.underlying22 hi hz1 wr.heap.size 0 (k + 6) [] rfl (hown1.alloc _) ⟨w1.heap.size, 0, none⟩ 5 5 (([100, 97, 116, 97, 58] : List Int).map (Value.int .u8)) rfl rfl (lit5 w1) (ints_oneCell _ _) (by omega) ?_; intro w2 hown2 hgrow2)
        | (at_builtin; refine wpList_append_fits _ rfl (.tmp 60) (.tmp 61) 22 rfl w.heap.size 5 i0 1 Try.underlying22 hi hz1 wr.heap.size 5 (k + 6) _ rfl hown2 ⟨w.heap.size, 0, none⟩ k k (ps.map (Value.int .u8)) rfl (by simp; omega) (chain_next (chain rfl HB.out hBl.out HN.out hgrow1) hgrow2).2.1.cells (ints_oneCell _ _) (by omega) ?_; intro w3 hown3 hgrow3))
      have HC : Hid (Below w.heap.size w w3 ∧ NS w3 w.heap.size 0 ps) := chain_last (chain_next (chain rfl HB.out hBl.out HN.out hgrow1) hgrow2) hgrow3
      have HL : Hid (NS w3 wr.heap.size 0 (100 :: 97 :: 116 :: 97 :: 58 :: ps)) := NS.of_own (xs := 100 :: 97 :: 116 :: 97 :: 58 :: ps) (n := 5 + k) (cap := k + 6) (base := w.heap.size) hown3 (by simp; omega)
      have HG : Hid (wr.heap.size < w3.heap.size) := (hown3.lt _ rfl).2
      clear hown1 hown2 hown3 hgrow1 hgrow2 hgrow3
      refine (dv_at wr.heap.size k 1 (5 + k) (k + 6) ps w3 (by omega) (by omega) hx (by omega) (by omega) HG.out HL.out _ _ _ (trim_plain wr.heap.size k ps HT.out)).mono ?_
      rintro e w4 ⟨rfl, hb4⟩
      have H4a : Hid (NS w4 wr.heap.size 5 ps) := (HL.out.below hb4 HG.out).tail
      have H4b : Hid (NS w4 w.heap.size 0 ps) := HC.out.2.below hb4 (by have h1 := hBl.out; have h2 := HG.out; omega)
      have H4c : Hid (Below w.heap.size w w4) := HC.out.1.trans (hb4.mono HC.out.1.size)
      clear hb4
      go_wp2_with fail
      refine (equal_yes wr.heap.size 5 _ w.heap.size 0 _ k ps w4 hx H4a H4b hn).mono ?_
      rintro e w5 ⟨rfl, q, hw⟩
      rw [hw]
      clear hw
      go_wp2_with fail
      go_ret
      exact ⟨rfl, H4c.out.trans (drewN_below _ _ _)⟩

set_option maxRecDepth 1000000 in
set_option maxHeartbeats 4000000 in
theorem law_space (b o n c : Nat) (ps : List Int) (w : World) (hx : ps.length = n) (H : Hid (NS w b o ps)) (hb : b < w.heap.size) (hn1 : 1 ≤ n) (hn : n ≤ 1048576) :
    Calls Try.prog 3 #[.slice (some ⟨b, o, none⟩) n c, .bool true] w fun e w' => e = .returned (.bool true) ∧ Below w.heap.size w w' := by
  have hmk := run_make_row' (P := Try.prog) 22 5 (.int .u8 0) 1 Try.underlying22 Try.info5 rfl .i64 .i64 n (by omega) (by omega)
  obtain ⟨i0, hi, hz0, hz1, hz2⟩ := info_parts Try.info5
  go_enter Try.func3, Try.ntmps3
  go_wp2_with (go_at_call 4; refine (guard_yes (some ⟨b, o, none⟩) n c true w hn).mono ?_; rintro e w' ⟨rfl, hw⟩; rw [hw]; clear hw)
  go_loopw [6] (fun i wr => ∃ k : Nat, k ≤ n ∧ i = .int .i64 k ∧ Hid (Below w.heap.size w wr) ∧ Hid (Part wr w.heap.size n k ps)) (fun i _ => n - (RowKit.intOf i).toNat)
  case atStart => exact ⟨0, Nat.zero_le _, rfl, (Below.refl _ _).alloc (Nat.le_refl _) _, (World.rowIs_made w (.int .u8 0) n 5).congr fun i _ => by simp⟩
  case round =>
    obtain ⟨k, hk, rfl, HB, HR⟩ := hrel
    by_cases hlt : k < n
    · have hcx : wr.cell? ⟨b, o + k, none⟩ = some (.int .u8 (ps.getD k 0)) := by rw [HB.out.cell (p := ⟨b, o + k, none⟩) hb]; exact H.out k (by omega)
      have hcd := World.rowIs.cell HR.out hlt
      have hfd := World.rowIs.frozen HR.out k
      obtain ⟨y, hy⟩ : ∃ y : Int, ps.getD k 0 = y := ⟨_, rfl⟩
      rw [hy] at hcx
      have HY : Hid (ps.getD k 0 = y) := hy
      clear hy
      go_wp2
      go_roundw
      case rel => exact ⟨k + 1, by omega, by go_num, HB.out.setCell (Nat.le_refl _) _, Part.next HY.out HR.out⟩
      case measure => simp [RowKit.intOf]; omega
    · obtain rfl : k = n := by omega
      have hBl : Hid (w.heap.size < wr.heap.size) := World.rowIs.lt HR.out
      have HN : Hid (NS wr w.heap.size 0 ps) := Part.ns HR.out hx
      clear HR
      go_wp2_with (first
        | (at_make; refine wpList_make_own _ rfl _ _ 22 rfl w.heap.size 5 i0 (.int .u8 0) 1 Try.underlying22 hi hz0 hz1 .i64 .i64 _ (k + 6) rfl rfl (by omega) (by rw [hz2]; omega) (by unfold maxLen; omega) HB.out.size ?_; intro w1 hown1 hgrow1)
        | (at_builtin; refine wpList_append_fits _ rfl (.tmp 53) (.tmp 54) 22 rfl w.heap.size 5 i0 1 Try.underlying22 hi hz1 wr.heap.size 0 (k + 6) [] rfl (hown1.alloc _) ⟨w1.heap.size, 0, none⟩ 5 5 (([100, 97, 116, 97, 58] : List Int).map (Value.int .u8)) rfl rfl (lit5 w1) (ints_oneCell _ _) (by omega) ?_; intro w2 hown2 hgrow2)
        | (at_builtin; refine wpList_append_fits _ rfl (.tmp 57) (.tmp 58) 22 rfl w.heap.size 5 i0 1 Try.underlying22 hi hz1 wr.heap.size 5 (k + 6) _ rfl (hown2.alloc _) ⟨w2.heap.size, 0, none⟩ 1 1 (([32] : List Int).map (Value.int .u8)) rfl rfl (lit1 w2) (ints_oneCell _ _) (by omega) ?_; intro w2s hown2s hgrow2s)
        | (at_builtin; refine wpList_append_fits _ rfl (.tmp 60) (.tmp 61) 22 rfl w.heap.size 5 i0 1 Try.underlying22 hi hz1 wr.heap.size 6 (k + 6) _ rfl hown2s ⟨w.heap.size, 0, none⟩ k k (ps.map (Value.int .u8)) rfl (by simp; omega) (chain_next (chain_next (chain rfl HB.out hBl.out HN.out hgrow1) hgrow2) hgrow2s).2.1.cells (ints_oneCell _ _) (by omega) ?_; intro w3 hown3 hgrow3))
      have HC : Hid (Below w.heap.size w w3 ∧ NS w3 w.heap.size 0 ps) := chain_last (chain_next (chain_next (chain rfl HB.out hBl.out HN.out hgrow1) hgrow2) hgrow2s) hgrow3
      have HL : Hid (NS w3 wr.heap.size 0 (100 :: 97 :: 116 :: 97 :: 58 :: 32 :: ps)) := NS.of_own (xs := 100 :: 97 :: 116 :: 97 :: 58 :: 32 :: ps) (n := 6 + k) (cap := k + 6) (base := w.heap.size) hown3 (by simp; omega)
      have HG : Hid (wr.heap.size < w3.heap.size) := (hown3.lt _ rfl).2
      clear hown1 hown2 hown3 hgrow1 hgrow2 hgrow3 hown2s hgrow2s
      refine (dv_at wr.heap.size (k + 1) 0 (6 + k) (k + 6) (32 :: ps) w3 (by omega) (by omega) (by simp; omega) (by omega) (by omega) HG.out HL.out _ _ _ (trim_space wr.heap.size k ps)).mono ?_
      rw [if_neg (show ¬ k = 0 by omega)]
      rintro e w4 ⟨rfl, hb4⟩
      have H4a : Hid (NS w4 wr.heap.size 6 ps) := (HL.out.below hb4 HG.out).tail.tail1
      have H4b : Hid (NS w4 w.heap.size 0 ps) := HC.out.2.below hb4 (by have h1 := hBl.out; have h2 := HG.out; omega)
      have H4c : Hid (Below w.heap.size w w4) := HC.out.1.trans (hb4.mono HC.out.1.size)
      clear hb4
      go_wp2_with fail
      refine (equal_yes wr.heap.size 6 _ w.heap.size 0 _ k ps w4 hx H4a H4b hn).mono ?_
      rintro e w5 ⟨rfl, q, hw⟩
      rw [hw]
      clear hw
      go_wp2_with fail
      go_ret
      exact ⟨rfl, H4c.out.trans (drewN_below _ _ _)⟩
end Go.Proofs.Qxb6602118a
