/-
  The walk of FnStep1bEdAndIngMeet (seat b6602085a).
-/
import Derived.Test.Qxb6602085aWalkD
import Derived.Test.Qxb6602085aPlain2
namespace Go.Proofs.Qxb6602085a
open Go.RowKit Go.Lib

set_option maxHeartbeats 400000 in
theorem law5_big1 (a : Option Addr) (n c : Nat) (w : World) (h : 1048576 < n) :
    Calls Try.prog 5 #[.slice a n c] w fun e w' => e = .returned (.bool true) ∧ Below w.heap.size w w' := by
  go_enter Try.func5, Try.ntmps5
  go_wp2_with (go_at_call 15; refine (guard5_no a n c _ h).mono ?_; rintro e w' ⟨rfl, rfl⟩)
  go_ret
  exact ⟨rfl, Below.refl _ _⟩
set_option maxHeartbeats 400000 in
theorem law5_big2 (a : Option Addr) (n c : Nat) (w : World) (h : n ≤ 1048576) (h2 : 4096 < n) :
    Calls Try.prog 5 #[.slice a n c] w fun e w' => e = .returned (.bool true) ∧ Below w.heap.size w w' := by
  go_enter Try.func5, Try.ntmps5
  go_wp2_with (go_at_call 15; refine (guard5_yes a n c _ h).mono ?_; rintro e w' ⟨rfl, rfl⟩)
  go_ret
  exact ⟨rfl, Below.refl _ _⟩
set_option maxHeartbeats 400000 in
theorem law5_e (b o n c : Nat) (w : World) (h : n ≤ 4096) (h2 : 2 ≤ n) (hc : w.cell? ⟨b, o + (n - 1), none⟩ = some (.int .u8 101)) :
    Calls Try.prog 5 #[.slice (some ⟨b, o, none⟩) n c] w fun e w' => e = .returned (.bool true) ∧ Below w.heap.size w w' := by
  go_enter Try.func5, Try.ntmps5
  go_wp2_with (go_at_call 15; refine (guard5_yes _ n c _ (by omega)).mono ?_; rintro e w' ⟨rfl, rfl⟩)
  go_ret
  exact ⟨rfl, Below.refl _ _⟩

theorem make_two (n : Nat) (h : n ≤ 4096) (w : World) : (Instr.makeSlice 22 (.int .i64 ((n : Int) + 2)) (.int .i64 ((n : Int) + 2))).run Try.prog w = .ok (.slice (some ⟨w.heap.size, 0, none⟩) (n + 2) (n + 2)) (w.alloc (.cells (madeCells #[.int .u8 0] (n + 2)) 5)) := by
  have := run_make_row' (P := Try.prog) 22 5 (.int .u8 0) 1 Try.underlying22 Try.info5 rfl .i64 .i64 (n + 2) (by omega) (by omega) w
  rw [show ((n + 2 : Nat) : Int) = (n : Int) + 2 by omega] at this
  exact this
theorem make_three (n : Nat) (h : n ≤ 4096) (w : World) : (Instr.makeSlice 22 (.int .i64 ((n : Int) + 3)) (.int .i64 ((n : Int) + 3))).run Try.prog w = .ok (.slice (some ⟨w.heap.size, 0, none⟩) (n + 3) (n + 3)) (w.alloc (.cells (madeCells #[.int .u8 0] (n + 3)) 5)) := by
  have := run_make_row' (P := Try.prog) 22 5 (.int .u8 0) 1 Try.underlying22 Try.info5 rfl .i64 .i64 (n + 3) (by omega) (by omega) w
  rw [show ((n + 3 : Nat) : Int) = (n : Int) + 3 by omega] at this
  exact this

/-- A row of which the first k cells hold the bytes of l, the rest 0. -/
def Part (w : World) (B m k : Nat) (l : List UInt8) : Prop := w.rowIs B 5 m (fun i => if i < k then .int .u8 (l.getD i 0).toNat else .int .u8 0)

theorem Part.start2 (w : World) (m m' : Nat) (l : List UInt8) : Part ((w.alloc (.cells (madeCells #[.int .u8 0] m) 5)).alloc (.cells (madeCells #[.int .u8 0] m') 5)) w.heap.size m 0 l :=
  World.rowIs.alloc ((World.rowIs_made w (.int .u8 0) m 5).congr fun i _ => by simp) _
theorem Part.start3 (w : World) (m m' : Nat) (l : List UInt8) : Part ((w.alloc (.cells (madeCells #[.int .u8 0] m) 5)).alloc (.cells (madeCells #[.int .u8 0] m') 5)) (w.heap.size + 1) m' 0 l := by
  have := (World.rowIs_made (w.alloc (.cells (madeCells #[.int .u8 0] m) 5)) (.int .u8 0) m' 5).congr (g := fun i => if i < 0 then .int .u8 (l.getD i 0).toNat else .int .u8 0) (fun i _ => by simp)
  rw [show (w.alloc (.cells (madeCells #[.int .u8 0] m) 5)).heap.size = w.heap.size + 1 by simp] at this
  exact this

theorem app_lo (s t : List UInt8) (i : Nat) (h : i < s.length) : (s ++ t).getD i 0 = s.getD i 0 := by
  rw [List.getD, List.getD, List.getElem?_append_left h]
theorem app_hi (s t : List UInt8) (i : Nat) : (s ++ t).getD (s.length + i) 0 = t.getD i 0 := by
  rw [List.getD, List.getD, List.getElem?_append_right (by omega), Nat.add_sub_cancel_left]
theorem take_getD (l : List UInt8) (k i : Nat) (h : i < k) : (l.take k).getD i 0 = l.getD i 0 := by
  rw [List.getD, List.getD, List.getElem?_take_of_lt h]

/-- The five stores behind the loop. -/
theorem five {wr : World} {B k : Nat} {l : List UInt8} (hk : k ≤ l.length) (HE : Part wr B (k + 2) k l) (HI : Part wr (B + 1) (k + 3) k l) :
    Row (((((wr.setCell ⟨B, k, none⟩ (.int .u8 101)).setCell ⟨B, k + 1, none⟩ (.int .u8 100)).setCell ⟨B + 1, k, none⟩ (.int .u8 105)).setCell ⟨B + 1, k + 1, none⟩ (.int .u8 110)).setCell ⟨B + 1, k + 2, none⟩ (.int .u8 103)) B (k + 2) (l.take k ++ [101, 100]) ∧
    Row (((((wr.setCell ⟨B, k, none⟩ (.int .u8 101)).setCell ⟨B, k + 1, none⟩ (.int .u8 100)).setCell ⟨B + 1, k, none⟩ (.int .u8 105)).setCell ⟨B + 1, k + 1, none⟩ (.int .u8 110)).setCell ⟨B + 1, k + 2, none⟩ (.int .u8 103)) (B + 1) (k + 3) (l.take k ++ [105, 110, 103]) := by
  have hl : (l.take k).length = k := by rw [List.length_take]; omega
  constructor
  · refine World.rowIs.congr (World.rowIs.setOther (World.rowIs.setOther (World.rowIs.setOther (World.rowIs.set (World.rowIs.set HE k (.int .u8 101)) (k + 1) (.int .u8 100)) (by simp) _) (by simp) _) (by simp) _) fun i hi => ?_
    by_cases e1 : i = k + 1
    · subst e1
      have := app_hi (l.take k) [101, 100] 1
      rw [hl] at this
      rw [if_pos rfl, this]
      rfl
    · by_cases e0 : i = k
      · subst e0
        have := app_hi (l.take i) [101, 100] 0
        rw [hl] at this
        have t0 : (l.take i ++ [101, 100]).getD i 0 = 101 := this
        rw [if_neg e1, if_pos rfl, t0]
        rfl
      · rw [if_neg e1, if_neg e0, if_pos (by omega), app_lo _ _ _ (by omega), take_getD _ _ _ (by omega)]
  · refine World.rowIs.congr (World.rowIs.set (World.rowIs.set (World.rowIs.set (World.rowIs.setOther (World.rowIs.setOther HI (by simp) _) (by simp) _) k (.int .u8 105)) (k + 1) (.int .u8 110)) (k + 2) (.int .u8 103)) fun i hi => ?_
    by_cases e2 : i = k + 2
    · subst e2
      have := app_hi (l.take k) [105, 110, 103] 2
      rw [hl] at this
      rw [if_pos rfl, this]
      rfl
    · by_cases e1 : i = k + 1
      · subst e1
        have := app_hi (l.take k) [105, 110, 103] 1
        rw [hl] at this
        rw [if_neg e2, if_pos rfl, this]
        rfl
      · by_cases e0 : i = k
        · subst e0
          have := app_hi (l.take i) [105, 110, 103] 0
          rw [hl] at this
          have t0 : (l.take i ++ [105, 110, 103]).getD i 0 = 105 := this
          rw [if_neg e2, if_neg e1, if_pos rfl, t0]
          rfl
        · rw [if_neg e2, if_neg e1, if_neg e0, if_pos (by omega), app_lo _ _ _ (by omega), take_getD _ _ _ (by omega)]

theorem part_next1 {wr : World} {B m k : Nat} {l : List UInt8} {y : Int} (hy : ((l.getD k 0).toNat : Int) = y) (h : Part wr B m k l) : Part ((wr.setCell ⟨B, k, none⟩ (.int .u8 y)).setCell ⟨B + 1, k, none⟩ (.int .u8 y)) B m (k + 1) l := by
  subst hy
  exact World.rowIs.setOther (clone_step h) (by simp) _
theorem part_next2 {wr : World} {B m k : Nat} {l : List UInt8} {y : Int} (hy : ((l.getD k 0).toNat : Int) = y) (h : Part wr (B + 1) m k l) : Part ((wr.setCell ⟨B, k, none⟩ (.int .u8 y)).setCell ⟨B + 1, k, none⟩ (.int .u8 y)) (B + 1) m (k + 1) l := by
  subst hy
  exact clone_step (World.rowIs.setOther h (by simp) _)

/-- ZZStep1b at a row of the call's own. -/
theorem zz_any (b n : Nat) (l : List UInt8) (w : World) (H : Row w b n l) (hl : n ≤ l.length) (hn : n ≤ maxLen) :
    Calls Try.prog 13 #[.slice (some ⟨b, 0, none⟩) n n] w fun e w' => ∃ m, m = (st l n).1 + (st l n).2.toNat ∧ e = .returned (.slice (some ⟨b, 0, none⟩) m n) ∧ Below b w w' ∧ BS w' b 0 m (left l (st l n)) := by
  refine (zz_of (some ⟨b, 0, none⟩) n n w (fun v w' => Post b 0 n l w (st l n) (.returned v) w') ⟨some ⟨b, 0, none⟩, (st l n).1 + (st l n).2.toNat, n, fun v w' h => by have := h.1; simpa using this⟩ ?_).mono ?_
  · refine (step1b_any b 0 n n l w (H.bs hl) (World.rowIs.lt H) (Nat.le_refl _) hn (fun i => by rw [Nat.zero_add]; exact World.rowIs.frozen H i)).mono fun e w' hp => ⟨_, hp.1, rfl, hp.2⟩
  · rintro e w' ⟨v, rfl, hp⟩
    exact ⟨_, rfl, hp.1, hp.2.1, hp.2.2⟩

/-- What the rest of the law needs of the two results. -/
def Ends (n : Nat) (v : Bool) (r1 r2 : Nat × Bool) : Prop := (v = true ∧ r1 = r2 ∧ r1.1 ≤ n) ∨ (v = false ∧ r1 = (n + 2, false) ∧ r2 = (n + 3, false))

set_option maxRecDepth 1000000 in
set_option maxHeartbeats 8000000 in
theorem law5_main (b o n c : Nat) (l : List UInt8) (w : World) (H : Hid (BS w b o n l)) (hb : b < w.heap.size) (h : n ≤ 4096) (z : Int) (hcl : w.cell? ⟨b, o + (n - 1), none⟩ = some (.int .u8 z)) (hne : Hid (2 ≤ n → ¬ z = 101))
    (v : Bool) (hv : Hid (shvTo l n = v)) (HE : Hid (Ends n v (st (l.take n ++ [101, 100]) (n + 2)) (st (l.take n ++ [105, 110, 103]) (n + 3)))) :
    Calls Try.prog 5 #[.slice (some ⟨b, o, none⟩) n c] w fun e w' => e = .returned (.bool true) ∧ Below w.heap.size w w' := by
  have hm2 := make_two n h
  have hm3 := make_three n h
  have hlen := H.out.len
  by_cases hn2 : 2 ≤ n
  case' pos =>
    have hz : (z == 101) = false := beq_eq_false_iff_ne.2 (hne.out hn2)
  all_goals
    go_enter Try.func5, Try.ntmps5
    go_wp2_with (go_at_call 15; refine (guard5_yes _ n c _ (by omega)).mono ?_; rintro e w' ⟨rfl, hw⟩; rw [hw]; clear hw)
    go_loopw [6] (fun i wr => ∃ k : Nat, k ≤ n ∧ i = .int .i64 k ∧ Hid (Below w.heap.size w wr) ∧ Hid (Part wr w.heap.size (n + 2) k l) ∧ Hid (Part wr (w.heap.size + 1) (n + 3) k l)) (fun i _ => n - (RowKit.intOf i).toNat)
    case atStart => exact ⟨0, Nat.zero_le _, rfl, ((Below.refl _ _).alloc (Nat.le_refl _) _).alloc (by simp) _, Part.start2 _ _ _ _, Part.start3 _ _ _ _⟩
    case round =>
      obtain ⟨k, hk, rfl, HB, HP, HI⟩ := hrel
      by_cases hlt : k < n
      · have hcx : wr.cell? ⟨b, o + k, none⟩ = some (.int .u8 (l.getD k 0).toNat) := by rw [HB.out.cell (p := ⟨b, o + k, none⟩) hb]; exact H.out.cell k hlt
        have e0 := World.rowIs.cell HP.out (show k < n + 2 by omega)
        have i0 := World.rowIs.cell HI.out (show k < n + 3 by omega)
        have fe := World.rowIs.frozen HP.out k
        have fi := World.rowIs.frozen HI.out k
        rw [if_neg (by omega)] at e0 i0
        obtain ⟨y, hy⟩ : ∃ y : Int, ((l.getD k 0).toNat : Int) = y := ⟨_, rfl⟩
        rw [hy] at hcx
        have HY : Hid (((l.getD k 0).toNat : Int) = y) := hy
        clear hy
        have hbw : ¬ b = w.heap.size := by omega
        have hbw1 : ¬ b = w.heap.size + 1 := by omega
        go_wp2
        go_roundw
        case rel => exact ⟨k + 1, by omega, by go_num, (HB.out.setCell (Nat.le_refl _) _).setCell (Nat.le_succ _) _, part_next1 HY.out HP.out, part_next2 HY.out HI.out⟩
        case measure => simp [RowKit.intOf]; omega
      · obtain rfl : k = n := by omega
        have e0 := World.rowIs.cell HP.out (show k < k + 2 by omega)
        have e1 := World.rowIs.cell HP.out (show k + 1 < k + 2 by omega)
        have i0 := World.rowIs.cell HI.out (show k < k + 3 by omega)
        have i1 := World.rowIs.cell HI.out (show k + 1 < k + 3 by omega)
        have i2 := World.rowIs.cell HI.out (show k + 2 < k + 3 by omega)
        have fe := World.rowIs.frozen HP.out
        have fi := World.rowIs.frozen HI.out
        rw [if_neg (by omega)] at e0 e1 i0 i1 i2
        go_wp2_with fail
        clear e0 e1 i0 i1 i2 fe fi hm2 hm3
        obtain ⟨R1, R2⟩ := five hlen HP.out HI.out
        have HB5 := ((((HB.out.setCell (p := ⟨w.heap.size, k, none⟩) (Nat.le_refl _) (.int .u8 101)).setCell (p := ⟨w.heap.size, k + 1, none⟩) (Nat.le_refl _) (.int .u8 100)).setCell (p := ⟨w.heap.size + 1, k, none⟩) (Nat.le_succ _) (.int .u8 105)).setCell (p := ⟨w.heap.size + 1, k + 1, none⟩) (Nat.le_succ _) (.int .u8 110)).setCell (p := ⟨w.heap.size + 1, k + 2, none⟩) (Nat.le_succ _) (.int .u8 103)
        generalize World.setCell (World.setCell (World.setCell (World.setCell (World.setCell wr _ _) _ _) _ _) _ _) _ _ = w5 at R1 R2 HB5 ⊢
        clear HP HI HB
        have hls : (l.take k).length = k := by rw [List.length_take]; have := hlen; omega
        have hle2 : k + 2 ≤ (l.take k ++ [101, 100]).length := by rw [List.length_append, hls]; exact Nat.le_refl _
        have hle3 : k + 3 ≤ (l.take k ++ [105, 110, 103]).length := by rw [List.length_append, hls]; exact Nat.le_refl _
        refine (clone_any w.heap.size 0 (k + 2) (k + 2) (l.take k ++ [101, 100]) w5 (R1.bs hle2) (World.rowIs.lt R1) (by omega)).mono ?_
        rintro e w1 ⟨rfl, B1, C1⟩
        have HB5' : Hid (Below w.heap.size w w5) := HB5
        have HR1 : Hid (Row w5 w.heap.size (k + 2) (l.take k ++ [101, 100])) := R1
        have HR2 : Hid (Row w5 (w.heap.size + 1) (k + 3) (l.take k ++ [105, 110, 103])) := R2
        have HB1 : Hid (Below w5.heap.size w5 w1) := B1
        have HC1 : Hid (Row w1 w5.heap.size (k + 2) (l.take k ++ [101, 100])) := C1
        clear HB5 R1 R2 B1 C1
        go_wp2_with fail
        refine (zz_any w5.heap.size (k + 2) (l.take k ++ [101, 100]) w1 HC1.out hle2 (by unfold maxLen; omega)).mono ?_
        rintro e w2 ⟨m1, hm1, rfl, B2, S1⟩
        have hz1 : w5.heap.size < w1.heap.size := World.rowIs.lt HC1.out
        have hz5 : w.heap.size + 1 < w5.heap.size := World.rowIs.lt HR2.out
        have hz2 : w5.heap.size < w2.heap.size := Nat.lt_of_lt_of_le hz1 B2.size
        have Q2 : Hid (Below w5.heap.size w5 w2) := HB1.out.trans B2
        have HS1 : Hid (BS w2 w5.heap.size 0 m1 (left (l.take k ++ [101, 100]) (st (l.take k ++ [101, 100]) (k + 2)))) := S1
        have HM1 : Hid (m1 = (st (l.take k ++ [101, 100]) (k + 2)).1 + (st (l.take k ++ [101, 100]) (k + 2)).2.toNat) := hm1
        clear B2 S1 hm1 HB1 HC1 hz1 w1
        go_wp2_with fail
        refine (clone_any (w.heap.size + 1) 0 (k + 3) (k + 3) (l.take k ++ [105, 110, 103]) w2 (Row.bs (World.rowIs.of_block HR2.out (Q2.out.block _ hz5)) hle3) (by omega) (by omega)).mono ?_
        rintro e w3 ⟨rfl, B3, C3⟩
        have HB3 : Hid (Below w2.heap.size w2 w3) := B3
        have HC3 : Hid (Row w3 w2.heap.size (k + 3) (l.take k ++ [105, 110, 103])) := C3
        clear B3 C3
        go_wp2_with fail
        refine (zz_any w2.heap.size (k + 3) (l.take k ++ [105, 110, 103]) w3 HC3.out hle3 (by unfold maxLen; omega)).mono ?_
        rintro e w4 ⟨m2, hm2, rfl, B4, S2⟩
        have Q4 : Hid (Below w2.heap.size w2 w4) := HB3.out.trans B4
        have HS2 : Hid (BS w4 w2.heap.size 0 m2 (left (l.take k ++ [105, 110, 103]) (st (l.take k ++ [105, 110, 103]) (k + 3)))) := S2
        have HM2 : Hid (m2 = (st (l.take k ++ [105, 110, 103]) (k + 3)).1 + (st (l.take k ++ [105, 110, 103]) (k + 3)).2.toNat) := hm2
        clear B4 S2 hm2 HB3 HC3 w3
        have HS1' : Hid (BS w4 w5.heap.size 0 m1 (left (l.take k ++ [101, 100]) (st (l.take k ++ [101, 100]) (k + 2)))) := HS1.out.below Q4.out hz2
        have QA : Hid (Below w.heap.size w w4) := (HB5'.out.trans (Q2.out.mono (by omega))).trans (Q4.out.mono (by omega))
        have E4 : Hid (Row w4 w.heap.size (k + 2) (l.take k ++ [101, 100])) := World.rowIs.of_block (World.rowIs.of_block HR1.out (Q2.out.block _ (by omega))) (Q4.out.block _ (by omega))
        have I4 : Hid (Row w4 (w.heap.size + 1) (k + 3) (l.take k ++ [105, 110, 103])) := World.rowIs.of_block (World.rowIs.of_block HR2.out (Q2.out.block _ (by omega))) (Q4.out.block _ (by omega))
        clear HS1 Q2 Q4 HR1 HR2 HB5'
        go_wp2_with fail
        refine (stemHasVowel_any b o k c l w4 (H.out.below QA.out hb) (by omega)).mono ?_
        rintro e w' ⟨rfl, hw⟩
        rw [hw, hv.out]
        clear hw
        rcases HE.out with ⟨hv1, he, hle⟩ | ⟨hv1, he1, he2⟩
        · rw [hv1]
          have hmm : m2 = m1 := by rw [HM1.out, HM2.out, he]
          subst hmm
          go_wp2_with fail
          refine (equal_yes w5.heap.size 0 (k + 2) w2.heap.size 0 (k + 3) m2 _ _ w4 HS1'.out HS2.out ?_ ?_).mono ?_
          · intro i hi
            have hi' : i < (st (l.take k ++ [101, 100]) (k + 2)).1 + (st (l.take k ++ [101, 100]) (k + 2)).2.toNat := by rw [← HM1.out]; exact hi
            rw [← he]
            exact left_get (l.take k) [101, 100] [105, 110, 103] _ (by rw [hls]; exact hle) i hi'
          · have hb2 : (st (l.take k ++ [101, 100]) (k + 2)).2.toNat ≤ 1 := by cases (st (l.take k ++ [101, 100]) (k + 2)).2 <;> decide
            rw [HM1.out]
            omega
          rintro e w' ⟨rfl, q, hw⟩
          rw [hw]
          clear hw
          go_wp2
          go_ret
          exact ⟨rfl, QA.out.trans (drewN_below _ _ _)⟩
        · rw [hv1]
          have hm1 : m1 = k + 2 := by rw [HM1.out, he1]; rfl
          have hm2 : m2 = k + 3 := by rw [HM2.out, he2]; rfl
          subst hm1 hm2
          go_wp2_with fail
          refine (equal_yes w5.heap.size 0 (k + 2) w.heap.size 0 (k + 2) (k + 2) _ _ w4 HS1'.out (E4.out.bs hle2) ?_ (by omega)).mono ?_
          · intro i hi
            rw [he1]
            rfl
          rintro e w' ⟨rfl, q, hw⟩
          rw [hw]
          clear hw
          go_wp2_with fail
          refine (equal_yes w2.heap.size 0 (k + 3) (w.heap.size + 1) 0 (k + 3) (k + 3) _ _ (w4.drewN q) (HS2.out.below (drewN_below (w2.heap.size + 1) _ _) (by omega)) ((I4.out.bs hle3).below (drewN_below (w.heap.size + 2) _ _) (by omega)) ?_ (by omega)).mono ?_
          · intro i hi
            rw [he2]
            rfl
          rintro e w' ⟨rfl, q', hw⟩
          rw [hw]
          clear hw
          go_wp2
          go_ret
          exact ⟨rfl, QA.out.trans (drewN_below _ _ _)⟩
end Go.Proofs.Qxb6602085a
