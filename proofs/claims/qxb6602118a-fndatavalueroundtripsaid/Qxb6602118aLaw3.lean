/-
  The walk of FnDataValueRoundTrip (seat b6602118a): an empty payload.
-/
import Derived.Test.Qxb6602118aLaw
namespace Go.Proofs.Qxb6602118a
open Go.RowKit Go.Lib

set_option maxRecDepth 1000000 in
set_option maxHeartbeats 4000000 in
theorem law_zero_plain (x : Addr) (c : Nat) (w : World) :
    Calls Try.prog 3 #[.slice (some x) 0 c, .bool false] w fun e w' => e = .returned (.bool true) ∧ Below w.heap.size w w' := by
  have hmk : ∀ w, (Instr.makeSlice 22 (.int .i64 0) (.int .i64 0)).run Try.prog w = .ok (.slice (some ⟨w.heap.size, 0, none⟩) 0 0) (w.alloc (.cells (madeCells #[.int .u8 0] 0) 5)) := run_make_row' (P := Try.prog) 22 5 (.int .u8 0) 1 Try.underlying22 Try.info5 rfl .i64 .i64 0 (by omega) (by omega)
  obtain ⟨i0, hi, hz0, hz1, hz2⟩ := info_parts Try.info5
  go_enter Try.func3, Try.ntmps3
  go_wp2_with (go_at_call 4; refine (guard_yes (some x) 0 c false w (by omega)).mono ?_; rintro e w' ⟨rfl, hw⟩; rw [hw]; clear hw)
  go_loopw [6] (fun i wr => i = .int .i64 0 ∧ Hid (Below w.heap.size w wr) ∧ Hid (w.heap.size < wr.heap.size)) (fun _ _ => 0)
  case atStart => exact ⟨rfl, (Below.refl _ _).alloc (Nat.le_refl _) _, by show _ < _; simp⟩
  case round =>
    obtain ⟨rfl, HB, hBl⟩ := hrel
    have HN : Hid (NS wr w.heap.size 0 []) := NS.none _ _
    go_wp2_with (first
      | (at_make; refine wpList_make_own _ rfl _ _ 22 rfl w.heap.size 5 i0 (.int .u8 0) 1 Try.underlying22 hi hz0 hz1 .i64 .i64 _ (6) rfl rfl (by omega) (by rw [hz2]; omega) (by unfold maxLen; omega) HB.out.size ?_; intro w1 hown1 hgrow1)
      | (at_builtin; refine wpList_append_fits _ rfl (.tmp 53) (.tmp 54) 22 rfl w.heap.size 5 i0 1 Try.underlying22 hi hz1 wr.heap.size 0 (6) [] rfl (hown1.alloc _) ⟨w1.heap.size, 0, none⟩ 5 5 (([100, 97, 116, 97, 58] : List Int).map (Value.int .u8)) rfl rfl (lit5 w1) (ints_oneCell _ _) (by omega) ?_; intro w2 hown2 hgrow2)
      | (at_builtin; refine wpList_append_fits _ rfl (.tmp 60) (.tmp 61) 22 rfl w.heap.size 5 i0 1 Try.underlying22 hi hz1 wr.heap.size 5 (6) _ rfl hown2 ⟨w.heap.size, 0, none⟩ 0 0 (([] : List Int).map (Value.int .u8)) rfl (by simp) (chain_next (chain rfl HB.out hBl.out HN.out hgrow1) hgrow2).2.1.cells (ints_oneCell _ _) (by omega) ?_; intro w3 hown3 hgrow3))
    have HC : Hid (Below w.heap.size w w3 ∧ NS w3 w.heap.size 0 []) := chain_last (chain_next (chain rfl HB.out hBl.out HN.out hgrow1) hgrow2) hgrow3
    have HL : Hid (NS w3 wr.heap.size 0 (100 :: 97 :: 116 :: 97 :: 58 :: [])) := NS.of_own (xs := 100 :: 97 :: 116 :: 97 :: 58 :: []) (n := 5) (cap := 6) (base := w.heap.size) hown3 (by simp)
    have HG : Hid (wr.heap.size < w3.heap.size) := (hown3.lt _ rfl).2
    clear hown1 hown2 hown3 hgrow1 hgrow2 hgrow3
    refine (dv_at wr.heap.size 0 1 (5) (6) [] w3 (by omega) (by omega) rfl (by omega) (by omega) HG.out HL.out _ _ _ (trim_plain wr.heap.size 0 [] (fun _ _ h => by cases h))).mono ?_
    rintro e w4 ⟨rfl, hb4⟩
    have H4c : Hid (Below w.heap.size w w4) := HC.out.1.trans (hb4.mono HC.out.1.size)
    clear hb4
    go_wp2_with fail
    refine (equal_zero _ _ _ _ w4).mono ?_
    rintro e w5 ⟨rfl, hw⟩
    rw [hw]
    clear hw
    go_wp2_with fail
    go_ret
    exact ⟨rfl, H4c.out⟩

set_option maxRecDepth 1000000 in
set_option maxHeartbeats 4000000 in
theorem law_zero_space (x : Addr) (c : Nat) (w : World) :
    Calls Try.prog 3 #[.slice (some x) 0 c, .bool true] w fun e w' => e = .returned (.bool true) ∧ Below w.heap.size w w' := by
  have hmk : ∀ w, (Instr.makeSlice 22 (.int .i64 0) (.int .i64 0)).run Try.prog w = .ok (.slice (some ⟨w.heap.size, 0, none⟩) 0 0) (w.alloc (.cells (madeCells #[.int .u8 0] 0) 5)) := run_make_row' (P := Try.prog) 22 5 (.int .u8 0) 1 Try.underlying22 Try.info5 rfl .i64 .i64 0 (by omega) (by omega)
  obtain ⟨i0, hi, hz0, hz1, hz2⟩ := info_parts Try.info5
  go_enter Try.func3, Try.ntmps3
  go_wp2_with (go_at_call 4; refine (guard_yes (some x) 0 c true w (by omega)).mono ?_; rintro e w' ⟨rfl, hw⟩; rw [hw]; clear hw)
  go_loopw [6] (fun i wr => i = .int .i64 0 ∧ Hid (Below w.heap.size w wr) ∧ Hid (w.heap.size < wr.heap.size)) (fun _ _ => 0)
  case atStart => exact ⟨rfl, (Below.refl _ _).alloc (Nat.le_refl _) _, by show _ < _; simp⟩
  case round =>
    obtain ⟨rfl, HB, hBl⟩ := hrel
    have HN : Hid (NS wr w.heap.size 0 []) := NS.none _ _
    go_wp2_with (first
      | (at_make; refine wpList_make_own _ rfl _ _ 22 rfl w.heap.size 5 i0 (.int .u8 0) 1 Try.underlying22 hi hz0 hz1 .i64 .i64 _ (6) rfl rfl (by omega) (by rw [hz2]; omega) (by unfold maxLen; omega) HB.out.size ?_; intro w1 hown1 hgrow1)
      | (at_builtin; refine wpList_append_fits _ rfl (.tmp 53) (.tmp 54) 22 rfl w.heap.size 5 i0 1 Try.underlying22 hi hz1 wr.heap.size 0 (6) [] rfl (hown1.alloc _) ⟨w1.heap.size, 0, none⟩ 5 5 (([100, 97, 116, 97, 58] : List Int).map (Value.int .u8)) rfl rfl (lit5 w1) (ints_oneCell _ _) (by omega) ?_; intro w2 hown2 hgrow2)
      | (at_builtin; refine wpList_append_fits _ rfl (.tmp 57) (.tmp 58) 22 rfl w.heap.size 5 i0 1 Try.underlying22 hi hz1 wr.heap.size 5 (6) _ rfl (hown2.alloc _) ⟨w2.heap.size, 0, none⟩ 1 1 (([32] : List Int).map (Value.int .u8)) rfl rfl (lit1 w2) (ints_oneCell _ _) (by omega) ?_; intro w2s hown2s hgrow2s)
      | (at_builtin; refine wpList_append_fits _ rfl (.tmp 60) (.tmp 61) 22 rfl w.heap.size 5 i0 1 Try.underlying22 hi hz1 wr.heap.size 6 (6) _ rfl hown2s ⟨w.heap.size, 0, none⟩ 0 0 (([] : List Int).map (Value.int .u8)) rfl (by simp) (chain_next (chain_next (chain rfl HB.out hBl.out HN.out hgrow1) hgrow2) hgrow2s).2.1.cells (ints_oneCell _ _) (by omega) ?_; intro w3 hown3 hgrow3))
    have HC : Hid (Below w.heap.size w w3 ∧ NS w3 w.heap.size 0 []) := chain_last (chain_next (chain_next (chain rfl HB.out hBl.out HN.out hgrow1) hgrow2) hgrow2s) hgrow3
    have HL : Hid (NS w3 wr.heap.size 0 (100 :: 97 :: 116 :: 97 :: 58 :: 32 :: [])) := NS.of_own (xs := 100 :: 97 :: 116 :: 97 :: 58 :: 32 :: []) (n := 6) (cap := 6) (base := w.heap.size) hown3 (by simp)
    have HG : Hid (wr.heap.size < w3.heap.size) := (hown3.lt _ rfl).2
    clear hown1 hown2 hown3 hgrow1 hgrow2 hgrow3 hown2s hgrow2s
    refine (dv_at wr.heap.size 1 0 (6) (6) (32 :: []) w3 (by omega) (by omega) rfl (by omega) (by omega) HG.out HL.out _ _ _ (trim_space wr.heap.size 0 [])).mono ?_
    rintro e w4 ⟨rfl, hb4⟩
    have H4c : Hid (Below w.heap.size w w4) := HC.out.1.trans (hb4.mono HC.out.1.size)
    clear hb4
    go_wp2_with fail
    refine (equal_zero _ _ _ _ w4).mono ?_
    rintro e w5 ⟨rfl, hw⟩
    rw [hw]
    clear hw
    go_wp2_with fail
    go_ret
    exact ⟨rfl, H4c.out⟩

set_option maxRecDepth 1000000 in
set_option maxHeartbeats 4000000 in
theorem law_nil_plain (w : World) :
    Calls Try.prog 3 #[.slice none 0 0, .bool false] w fun e w' => e = .returned (.bool true) ∧ Below w.heap.size w w' := by
  obtain ⟨i0, hi, hz0, hz1, hz2⟩ := info_parts Try.info5
  go_enter Try.func3, Try.ntmps3
  go_wp2_with fail
  refine (guard_yes none 0 0 false w (by omega)).mono ?_
  rintro e w' ⟨rfl, hw⟩
  rw [hw]
  clear hw
  go_wp2_with (first
    | (at_make; refine wpList_make_own _ rfl _ _ 22 rfl w.heap.size 5 i0 (.int .u8 0) 1 Try.underlying22 hi hz0 hz1 .i64 .i64 _ (6) rfl rfl (by omega) (by rw [hz2]; omega) (by unfold maxLen; omega) (Nat.le_refl _) ?_; intro w1 hown1 hgrow1)
    | (at_builtin; refine wpList_append_fits _ rfl (.tmp 53) (.tmp 54) 22 rfl w.heap.size 5 i0 1 Try.underlying22 hi hz1 w.heap.size 0 (6) [] rfl (hown1.alloc _) ⟨w1.heap.size, 0, none⟩ 5 5 (([100, 97, 116, 97, 58] : List Int).map (Value.int .u8)) rfl rfl (lit5 w1) (ints_oneCell _ _) (by omega) ?_; intro w2 hown2 hgrow2)
    | (at_builtin; refine wpList_append_fits_any _ rfl (.tmp 60) (.tmp 61) 22 rfl w.heap.size 5 i0 1 Try.underlying22 hi hz1 w.heap.size 5 (6) _ rfl hown2 none 0 0 (([] : List Int).map (Value.int .u8)) rfl rfl (fun _ => ⟨rfl, rfl⟩) (by intro _ h; cases h) (ints_oneCell _ _) (by omega) ?_; intro w3 hown3 hgrow3))
  have HC : Hid (Below w.heap.size w w3) := nil_last (nil_next (nil_first hgrow1) hgrow2) hgrow3
  have HL : Hid (NS w3 w.heap.size 0 (100 :: 97 :: 116 :: 97 :: 58 :: [])) := NS.of_own (xs := 100 :: 97 :: 116 :: 97 :: 58 :: []) (n := 5) (cap := 6) (base := w.heap.size) hown3 (by simp)
  have HG : Hid (w.heap.size < w3.heap.size) := (hown3.lt _ rfl).2
  clear hown1 hown2 hown3 hgrow1 hgrow2 hgrow3
  refine (dv_at w.heap.size 0 1 (5) (6) [] w3 (by omega) (by omega) rfl (by omega) (by omega) HG.out HL.out _ _ _ (trim_plain w.heap.size 0 [] (fun _ _ h => by cases h))).mono ?_
  rintro e w4 ⟨rfl, hb4⟩
  have H4c : Hid (Below w.heap.size w w4) := HC.out.trans (hb4.mono HC.out.size)
  clear hb4
  go_wp2_with fail
  refine (equal_zero _ _ _ _ w4).mono ?_
  rintro e w5 ⟨rfl, hw⟩
  rw [hw]
  clear hw
  go_wp2_with fail
  go_ret
  exact ⟨rfl, H4c.out⟩

set_option maxRecDepth 1000000 in
set_option maxHeartbeats 4000000 in
theorem law_nil_space (w : World) :
    Calls Try.prog 3 #[.slice none 0 0, .bool true] w fun e w' => e = .returned (.bool true) ∧ Below w.heap.size w w' := by
  obtain ⟨i0, hi, hz0, hz1, hz2⟩ := info_parts Try.info5
  go_enter Try.func3, Try.ntmps3
  go_wp2_with fail
  refine (guard_yes none 0 0 true w (by omega)).mono ?_
  rintro e w' ⟨rfl, hw⟩
  rw [hw]
  clear hw
  go_wp2_with (first
    | (at_make; refine wpList_make_own _ rfl _ _ 22 rfl w.heap.size 5 i0 (.int .u8 0) 1 Try.underlying22 hi hz0 hz1 .i64 .i64 _ (6) rfl rfl (by omega) (by rw [hz2]; omega) (by unfold maxLen; omega) (Nat.le_refl _) ?_; intro w1 hown1 hgrow1)
    | (at_builtin; refine wpList_append_fits _ rfl (.tmp 53) (.tmp 54) 22 rfl w.heap.size 5 i0 1 Try.underlying22 hi hz1 w.heap.size 0 (6) [] rfl (hown1.alloc _) ⟨w1.heap.size, 0, none⟩ 5 5 (([100, 97, 116, 97, 58] : List Int).map (Value.int .u8)) rfl rfl (lit5 w1) (ints_oneCell _ _) (by omega) ?_; intro w2 hown2 hgrow2)
    | (at_builtin; refine wpList_append_fits _ rfl (.tmp 57) (.tmp 58) 22 rfl w.heap.size 5 i0 1 Try.underlying22 hi hz1 w.heap.size 5 (6) _ rfl (hown2.alloc _) ⟨w2.heap.size, 0, none⟩ 1 1 (([32] : List Int).map (Value.int .u8)) rfl rfl (lit1 w2) (ints_oneCell _ _) (by omega) ?_; intro w2s hown2s hgrow2s)
    | (at_builtin; refine wpList_append_fits_any _ rfl (.tmp 60) (.tmp 61) 22 rfl w.heap.size 5 i0 1 Try.underlying22 hi hz1 w.heap.size 6 (6) _ rfl hown2s none 0 0 (([] : List Int).map (Value.int .u8)) rfl rfl (fun _ => ⟨rfl, rfl⟩) (by intro _ h; cases h) (ints_oneCell _ _) (by omega) ?_; intro w3 hown3 hgrow3))
  have HC : Hid (Below w.heap.size w w3) := nil_last (nil_next (nil_next (nil_first hgrow1) hgrow2) hgrow2s) hgrow3
  have HL : Hid (NS w3 w.heap.size 0 (100 :: 97 :: 116 :: 97 :: 58 :: 32 :: [])) := NS.of_own (xs := 100 :: 97 :: 116 :: 97 :: 58 :: 32 :: []) (n := 6) (cap := 6) (base := w.heap.size) hown3 (by simp)
  have HG : Hid (w.heap.size < w3.heap.size) := (hown3.lt _ rfl).2
  clear hown1 hown2 hown3 hgrow1 hgrow2 hgrow3 hown2s hgrow2s
  refine (dv_at w.heap.size 1 0 (6) (6) (32 :: []) w3 (by omega) (by omega) rfl (by omega) (by omega) HG.out HL.out _ _ _ (trim_space w.heap.size 0 [])).mono ?_
  rintro e w4 ⟨rfl, hb4⟩
  have H4c : Hid (Below w.heap.size w w4) := HC.out.trans (hb4.mono HC.out.size)
  clear hb4
  go_wp2_with fail
  refine (equal_zero _ _ _ _ w4).mono ?_
  rintro e w5 ⟨rfl, hw⟩
  rw [hw]
  clear hw
  go_wp2_with fail
  go_ret
  exact ⟨rfl, H4c.out⟩
end Go.Proofs.Qxb6602118a
