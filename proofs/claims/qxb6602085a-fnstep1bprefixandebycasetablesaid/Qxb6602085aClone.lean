/-
  WALKS (seat b6602085a): wb1CloneBytes, wb1EqualBytes, ZZStep1b, the length guards.
-/
import Derived.Test.Qxb6602085aStep3
import Derived.Deep.OwnRows
import Derived.Lib.SliceRun
namespace Go.Proofs.Qxb6602085a
open Go.RowKit Go.Lib

theorem Try.info5 : (Try.prog.info? 5).map (fun i => (i.zero, i.size, i.bytes)) = some (some (.int .u8 0), 1, 1) := by kernel_rfl

/-- A new row that holds the bytes l, n of them. -/
def Row (w : World) (b n : Nat) (l : List UInt8) : Prop := w.rowIs b 5 n (fun i => .int .u8 (l.getD i 0).toNat)
theorem Row.bs {w : World} {b n : Nat} {l : List UInt8} (h : Row w b n l) (hl : n ≤ l.length) : BS w b 0 n l :=
  ⟨hl, fun i hi => by rw [Nat.zero_add]; exact World.rowIs.cell h hi⟩

theorem clone_step {w : World} {B n k : Nat} {l : List UInt8} (h : w.rowIs B 5 n (fun i => if i < k then .int .u8 (l.getD i 0).toNat else .int .u8 0)) :
    (w.setCell ⟨B, k, none⟩ (.int .u8 (l.getD k 0).toNat)).rowIs B 5 n (fun i => if i < k + 1 then .int .u8 (l.getD i 0).toNat else .int .u8 0) := by
  refine (World.rowIs.set h k _).congr fun i _ => ?_
  by_cases e : i = k
  · subst e; simp
  · by_cases e2 : i < k
    · rw [if_neg e, if_pos e2, if_pos (by omega)]
    · rw [if_neg e, if_neg e2, if_neg (by omega)]

set_option maxRecDepth 1000000 in
set_option maxHeartbeats 1000000 in
theorem clone_any (b o n c : Nat) (l : List UInt8) (w : World) (H : Hid (BS w b o n l)) (hb : b < w.heap.size) (hn : n ≤ 2097152) :
    Calls Try.prog 8 #[.slice (some ⟨b, o, none⟩) n c] w fun e w' => e = .returned (.slice (some ⟨w.heap.size, 0, none⟩) n n) ∧ Below w.heap.size w w' ∧ Row w' w.heap.size n l := by
  have hnil := fun (w : World) => run_eql_slice_nil (P := Try.prog) w 22 5 (some ⟨b, o, none⟩) n c 0 0 Try.underlying22
  have hmk := run_make_row' (P := Try.prog) 22 5 (.int .u8 0) 1 Try.underlying22 Try.info5 rfl .i64 .i64 n (by omega) (by omega)
  go_enter Try.func8, Try.ntmps8
  go_wp2
  go_loopw [4] (fun i wr => ∃ k : Nat, k ≤ n ∧ i = .int .i64 k ∧ Hid (Below w.heap.size w wr) ∧ Hid (wr.rowIs w.heap.size 5 n (fun i => if i < k then .int .u8 (l.getD i 0).toNat else .int .u8 0))) (fun i _ => n - (RowKit.intOf i).toNat)
  case atStart => exact ⟨0, Nat.zero_le _, rfl, (Below.refl _ _).alloc (Nat.le_refl _) _, World.rowIs_made _ _ _ _⟩
  case round =>
    obtain ⟨k, hk, rfl, HB, HR⟩ := hrel
    by_cases hlt : k < n
    · have hcx : wr.cell? ⟨b, o + k, none⟩ = some (.int .u8 (l.getD k 0).toNat) := by rw [HB.out.cell (p := ⟨b, o + k, none⟩) hb]; exact H.out.cell k hlt
      have hcd := World.rowIs.cell HR.out hlt
      have hfd := World.rowIs.frozen HR.out k
      obtain ⟨z, hz⟩ : ∃ z : Int, ((l.getD k 0).toNat : Int) = z := ⟨_, rfl⟩
      rw [hz] at hcx
      have HZ : Hid (((l.getD k 0).toNat : Int) = z) := hz
      clear hz
      go_wp2
      go_roundw
      case rel => exact ⟨k + 1, by omega, by go_num, HB.out.setCell (Nat.le_refl _) _, by show World.rowIs _ _ _ _ _; rw [← HZ.out]; exact clone_step HR.out⟩
      case measure => simp [RowKit.intOf]; omega
    · go_wp2
      go_ret
      obtain rfl : k = n := by omega
      exact ⟨rfl, HB.out, HR.out.congr fun i hi => by rw [if_pos hi]⟩

set_option maxRecDepth 1000000 in
set_option maxHeartbeats 1000000 in
/-- An empty slice that is not nil: a new empty slice. -/
theorem clone_zero (a : Addr) (c : Nat) (w : World) :
    Calls Try.prog 8 #[.slice (some a) 0 c] w fun e w' => e = .returned (.slice (some ⟨w.heap.size, 0, none⟩) 0 0) ∧ Below w.heap.size w w' := by
  have hnil := fun (w : World) => run_eql_slice_nil (P := Try.prog) w 22 5 (some a) 0 c 0 0 Try.underlying22
  have hmk := run_make_row' (P := Try.prog) 22 5 (.int .u8 0) 1 Try.underlying22 Try.info5 rfl .i64 .i64 0 (by omega) (by omega)
  have hmk' : ∀ w, (Instr.makeSlice 22 (.int .i64 0) (.int .i64 0)).run Try.prog w = .ok (.slice (some ⟨w.heap.size, 0, none⟩) 0 0) (w.alloc (.cells (madeCells #[.int .u8 0] 0) 5)) := hmk
  clear hmk
  go_enter Try.func8, Try.ntmps8
  go_wp2
  refine wp_loop_rounds 1 ?_
  rw [rounds_succ]
  go_wp2
  go_ret
  exact ⟨rfl, (Below.refl _ _).alloc (Nat.le_refl _) _⟩

set_option maxRecDepth 1000000 in
set_option maxHeartbeats 1000000 in
theorem clone_nil (n c : Nat) (w : World) :
    Calls Try.prog 8 #[.slice none n c] w fun e w' => e = .returned (.slice none 0 0) ∧ w' = w := by
  have hnil := fun (w : World) => run_eql_slice_nil (P := Try.prog) w 22 5 none n c 0 0 Try.underlying22
  go_enter Try.func8, Try.ntmps8
  go_wp2
  go_ret
  exact ⟨rfl, rfl⟩

set_option maxHeartbeats 400000 in
theorem guard4_yes (a : Option Addr) (n c : Nat) (w : World) (h : n ≤ 1048576) :
    Calls Try.prog 11 #[.slice a n c] w fun e w' => e = .returned (.bool true) ∧ w' = w := by
  go_enter Try.func11, Try.ntmps11
  go_wp2
  go_ret
  exact ⟨rfl, rfl⟩
set_option maxHeartbeats 400000 in
theorem guard4_no (a : Option Addr) (n c : Nat) (w : World) (h : 1048576 < n) :
    Calls Try.prog 11 #[.slice a n c] w fun e w' => e = .returned (.bool false) ∧ w' = w := by
  go_enter Try.func11, Try.ntmps11
  go_wp2
  go_ret
  exact ⟨rfl, rfl⟩
set_option maxHeartbeats 400000 in
theorem guard5_yes (a : Option Addr) (n c : Nat) (w : World) (h : n ≤ 1048576) :
    Calls Try.prog 15 #[.slice a n c] w fun e w' => e = .returned (.bool true) ∧ w' = w := by
  go_enter Try.func15, Try.ntmps15
  go_wp2
  go_ret
  exact ⟨rfl, rfl⟩
set_option maxHeartbeats 400000 in
theorem guard5_no (a : Option Addr) (n c : Nat) (w : World) (h : 1048576 < n) :
    Calls Try.prog 15 #[.slice a n c] w fun e w' => e = .returned (.bool false) ∧ w' = w := by
  go_enter Try.func15, Try.ntmps15
  go_wp2
  go_ret
  exact ⟨rfl, rfl⟩

theorem cuts_lt {l suf : List UInt8} {n : Nat} (h : cuts l n suf = true) : suf.length < n := by
  unfold cuts at h
  rw [Bool.and_eq_true, decide_eq_true_eq] at h
  exact h.1

/-- step1b, whole. -/
theorem step1b_any (b o n c : Nat) (l : List UInt8) (w : World) (H : BS w b o n l) (hb : b < w.heap.size) (hnc : n ≤ c) (hcm : c ≤ maxLen) (hfz : ∀ i, w.frozen? ⟨b, o + i, none⟩ = false) :
    Calls Try.prog 27 #[.slice (some ⟨b, o, none⟩) n c] w fun e w' => Post b o c l w (st l n) e w' := by
  have same : ∀ k, k ≤ n → st l n = (k, false) → ∀ (e : Ending) (w' : World), e = .returned (.slice (some ⟨b, o, none⟩) k c) ∧ w' = w → Post b o c l w (st l n) e w' := by
    rintro k hk hr e w' ⟨rfl, rfl⟩
    exact post_same H hk hb hr (Below.refl _ _)
  cases h1 : cuts l n sEED
  case true =>
    obtain ⟨k, rfl⟩ : ∃ k, n = k + 3 := ⟨n - 3, by have := cuts_lt h1; simp [sEED] at this; omega⟩
    have hk : 1 ≤ k := by have := cuts_lt h1; simp [sEED] at this; omega
    have est : st l (k + 3) = if 0 < measTo l k then (k + 2, false) else (k + 3, false) := by
      unfold st
      rw [if_pos h1]
      rfl
    by_cases hm : 0 < measTo l k
    · exact (step_eed b o k c l w H hnc hcm h1 hk (by omega)).mono (same (k + 2) (by omega) (by rw [est, if_pos hm]))
    · exact (step_eed0 b o k c l w H hnc hcm h1 hk (by omega)).mono (same (k + 3) (by omega) (by rw [est, if_neg hm]))
  cases h2 : cuts l n sED
  case true =>
    obtain ⟨j, rfl⟩ : ∃ j, n = j + 3 := ⟨n - 3, by have := cuts_lt h2; simp [sED] at this; omega⟩
    have est : st l (j + 3) = if hvTo l (j + 1) then tailN l (j + 1) else (j + 3, false) := by
      unfold st
      rw [if_neg (by rw [h1]; simp), if_pos h2]
      rfl
    cases hv : hvTo l (j + 1)
    · exact (step_ed_novowel b o (j + 1) c l w H hnc hcm h1 h2 hv).mono (same (j + 3) (by omega) (by rw [est, hv]; rfl))
    · rw [est, hv]
      exact main_ed b o j c l w H hb hnc hcm h1 h2 hv (hfz _)
  cases h3 : cuts l n sING
  case true =>
    obtain ⟨j, rfl⟩ : ∃ j, n = j + 4 := ⟨n - 4, by have := cuts_lt h3; simp [sING] at this; omega⟩
    have est : st l (j + 4) = if hvTo l (j + 1) then tailN l (j + 1) else (j + 4, false) := by
      unfold st
      rw [if_neg (by rw [h1]; simp), if_neg (by rw [h2]; simp), if_pos h3]
      rfl
    cases hv : hvTo l (j + 1)
    · exact (step_ing_novowel b o (j + 1) c l w H hnc hcm h1 h2 h3 hv).mono (same (j + 4) (by omega) (by rw [est, hv]; rfl))
    · rw [est, hv]
      exact main_ing b o j c l w H hb hnc hcm h1 h2 h3 hv (hfz _)
  refine (step_none b o n c l w H hnc hcm h1 h2 h3).mono (same n (by omega) ?_)
  unfold st
  rw [if_neg (by rw [h1]; simp), if_neg (by rw [h2]; simp), if_neg (by rw [h3]; simp)]

set_option maxHeartbeats 400000 in
theorem zz_of (a : Option Addr) (n c : Nat) (w : World) (Q : Value → World → Prop) (hsl : ∃ a' n' c', ∀ v w', Q v w' → v = .slice a' n' c')
    (h : Calls Try.prog 27 #[.slice a n c] w fun e w' => ∃ v, e = .returned v ∧ Q v w') :
    Calls Try.prog 13 #[.slice a n c] w fun e w' => ∃ v, e = .returned v ∧ Q v w' := by
  obtain ⟨a', n', c', hsl⟩ := hsl
  go_enter Try.func13, Try.ntmps13
  go_wp2_with (go_at_call 27; refine h.mono ?_; rintro e w' ⟨v, rfl, hq⟩; have HQ : Hid (Q v w') := hq; clear hq; have hv := hsl v w' HQ.out; subst hv)
  go_ret
  exact ⟨_, rfl, HQ.out⟩
end Go.Proofs.Qxb6602085a
