/-
  The walk of FnStep1bEdAndIngMeet at an empty stem, nil too (seat b6602085a).
-/
import Derived.Test.Qxb6602085aLaw5
namespace Go.Proofs.Qxb6602085a
open Go.RowKit Go.Lib

set_option maxRecDepth 1000000 in
set_option maxHeartbeats 8000000 in
theorem law5_zero (a : Option Addr) (c : Nat) (w : World) :
    Calls Try.prog 5 #[.slice a 0 c] w fun e w' => e = .returned (.bool true) ∧ Below w.heap.size w w' := by
  have hm2 : ∀ w, (Instr.makeSlice 22 (.int .i64 2) (.int .i64 2)).run Try.prog w = .ok (.slice (some ⟨w.heap.size, 0, none⟩) 2 2) (w.alloc (.cells (madeCells #[.int .u8 0] 2) 5)) := make_two 0 (by omega)
  have hm3 : ∀ w, (Instr.makeSlice 22 (.int .i64 3) (.int .i64 3)).run Try.prog w = .ok (.slice (some ⟨w.heap.size, 0, none⟩) 3 3) (w.alloc (.cells (madeCells #[.int .u8 0] 3) 5)) := make_three 0 (by omega)
  go_enter Try.func5, Try.ntmps5
  go_wp2_with (go_at_call 15; refine (guard5_yes _ 0 c _ (by omega)).mono ?_; rintro e w' ⟨rfl, hw⟩; rw [hw]; clear hw)
  refine wp_loop_rounds 1 ?_
  rw [rounds_succ]
  have HB : Below w.heap.size w ((w.alloc (.cells (madeCells #[.int .u8 0] 2) 5)).alloc (.cells (madeCells #[.int .u8 0] 3) 5)) := ((Below.refl _ _).alloc (Nat.le_refl _) _).alloc (by simp) _
  have HP := Part.start2 w 2 3 []
  have HI := Part.start3 w 2 3 []
  generalize (w.alloc (.cells (madeCells #[.int .u8 0] 2) 5)).alloc (.cells (madeCells #[.int .u8 0] 3) 5) = wr at HB HP HI ⊢
  have e0 := World.rowIs.cell HP (show 0 < 2 by omega)
  have e1 := World.rowIs.cell HP (show 1 < 2 by omega)
  have i0 := World.rowIs.cell HI (show 0 < 3 by omega)
  have i1 := World.rowIs.cell HI (show 1 < 3 by omega)
  have i2 := World.rowIs.cell HI (show 2 < 3 by omega)
  have fe := World.rowIs.frozen HP
  have fi := World.rowIs.frozen HI
  rw [if_neg (by omega)] at e0 e1 i0 i1 i2
  go_wp2_with fail
  clear e0 e1 i0 i1 i2 fe fi hm2 hm3
  obtain ⟨R1, R2⟩ : Row _ w.heap.size 2 [101, 100] ∧ Row _ (w.heap.size + 1) 3 [105, 110, 103] := five (l := []) (k := 0) (Nat.le_refl _) HP HI
  have HB5 := ((((HB.setCell (p := ⟨w.heap.size, 0, none⟩) (Nat.le_refl _) (.int .u8 101)).setCell (p := ⟨w.heap.size, 0 + 1, none⟩) (Nat.le_refl _) (.int .u8 100)).setCell (p := ⟨w.heap.size + 1, 0, none⟩) (Nat.le_succ _) (.int .u8 105)).setCell (p := ⟨w.heap.size + 1, 0 + 1, none⟩) (Nat.le_succ _) (.int .u8 110)).setCell (p := ⟨w.heap.size + 1, 0 + 2, none⟩) (Nat.le_succ _) (.int .u8 103)
  simp only [Nat.zero_add] at R1 R2 HB5
  generalize World.setCell (World.setCell (World.setCell (World.setCell (World.setCell wr _ _) _ _) _ _) _ _) _ _ = w5 at R1 R2 HB5 ⊢
  clear HP HI HB
  have hle2 : 2 ≤ ([101, 100] : List UInt8).length := by decide
  have hle3 : 3 ≤ ([105, 110, 103] : List UInt8).length := by decide
  refine (clone_any w.heap.size 0 (2) (2) [101, 100] w5 (R1.bs hle2) (World.rowIs.lt R1) (by omega)).mono ?_
  rintro e w1 ⟨rfl, B1, C1⟩
  have HB5' : Hid (Below w.heap.size w w5) := HB5
  have HR1 : Hid (Row w5 w.heap.size (2) [101, 100]) := R1
  have HR2 : Hid (Row w5 (w.heap.size + 1) (3) [105, 110, 103]) := R2
  have HB1 : Hid (Below w5.heap.size w5 w1) := B1
  have HC1 : Hid (Row w1 w5.heap.size (2) [101, 100]) := C1
  clear HB5 R1 R2 B1 C1
  go_wp2_with fail
  refine (zz_any w5.heap.size (2) [101, 100] w1 HC1.out hle2 (by unfold maxLen; omega)).mono ?_
  rintro e w2 ⟨m1, hm1, rfl, B2, S1⟩
  have hz1 : w5.heap.size < w1.heap.size := World.rowIs.lt HC1.out
  have hz5 : w.heap.size + 1 < w5.heap.size := World.rowIs.lt HR2.out
  have hz2 : w5.heap.size < w2.heap.size := Nat.lt_of_lt_of_le hz1 B2.size
  have Q2 : Hid (Below w5.heap.size w5 w2) := HB1.out.trans B2
  have HS1 : Hid (BS w2 w5.heap.size 0 m1 (left [101, 100] (st [101, 100] (2)))) := S1
  have HM1 : Hid (m1 = (st [101, 100] (2)).1 + (st [101, 100] (2)).2.toNat) := hm1
  clear B2 S1 hm1 HB1 HC1 hz1 w1
  go_wp2_with fail
  refine (clone_any (w.heap.size + 1) 0 (3) (3) [105, 110, 103] w2 (Row.bs (World.rowIs.of_block HR2.out (Q2.out.block _ hz5)) hle3) (by omega) (by omega)).mono ?_
  rintro e w3 ⟨rfl, B3, C3⟩
  have HB3 : Hid (Below w2.heap.size w2 w3) := B3
  have HC3 : Hid (Row w3 w2.heap.size (3) [105, 110, 103]) := C3
  clear B3 C3
  go_wp2_with fail
  refine (zz_any w2.heap.size (3) [105, 110, 103] w3 HC3.out hle3 (by unfold maxLen; omega)).mono ?_
  rintro e w4 ⟨m2, hm2, rfl, B4, S2⟩
  have Q4 : Hid (Below w2.heap.size w2 w4) := HB3.out.trans B4
  have HS2 : Hid (BS w4 w2.heap.size 0 m2 (left [105, 110, 103] (st [105, 110, 103] (3)))) := S2
  have HM2 : Hid (m2 = (st [105, 110, 103] (3)).1 + (st [105, 110, 103] (3)).2.toNat) := hm2
  clear B4 S2 hm2 HB3 HC3 w3
  have HS1' : Hid (BS w4 w5.heap.size 0 m1 (left [101, 100] (st [101, 100] (2)))) := HS1.out.below Q4.out hz2
  have QA : Hid (Below w.heap.size w w4) := (HB5'.out.trans (Q2.out.mono (by omega))).trans (Q4.out.mono (by omega))
  have E4 : Hid (Row w4 w.heap.size (2) [101, 100]) := World.rowIs.of_block (World.rowIs.of_block HR1.out (Q2.out.block _ (by omega))) (Q4.out.block _ (by omega))
  have I4 : Hid (Row w4 (w.heap.size + 1) (3) [105, 110, 103]) := World.rowIs.of_block (World.rowIs.of_block HR2.out (Q2.out.block _ (by omega))) (Q4.out.block _ (by omega))
  clear HS1 Q2 Q4 HR1 HR2 HB5'
  go_wp2_with fail
  refine (stemHasVowel_zero a c w4).mono ?_
  rintro e w' ⟨rfl, hw⟩
  rw [hw]
  clear hw
  have he1 : st [101, 100] 2 = (2, false) := by decide
  have he2 : st [105, 110, 103] 3 = (3, false) := by decide
  have hm1 : m1 = 2 := by rw [HM1.out, he1]; rfl
  have hm2 : m2 = 3 := by rw [HM2.out, he2]; rfl
  subst hm1 hm2
  go_wp2_with fail
  refine (equal_yes w5.heap.size 0 (2) w.heap.size 0 (2) (2) _ _ w4 HS1'.out (E4.out.bs hle2) ?_ (by omega)).mono ?_
  · intro i hi
    rw [he1]
    rfl
  rintro e w' ⟨rfl, q, hw⟩
  rw [hw]
  clear hw
  go_wp2_with fail
  refine (equal_yes w2.heap.size 0 (3) (w.heap.size + 1) 0 (3) (3) _ _ (w4.drewN q) (HS2.out.below (drewN_below (w2.heap.size + 1) _ _) (by omega)) ((I4.out.bs hle3).below (drewN_below (w.heap.size + 2) _ _) (by omega)) ?_ (by omega)).mono ?_
  · intro i hi
    rw [he2]
    rfl
  rintro e w' ⟨rfl, q', hw⟩
  rw [hw]
  clear hw
  go_wp2
  go_ret
  exact ⟨rfl, QA.out.trans (drewN_below _ _ _)⟩
end Go.Proofs.Qxb6602085a
