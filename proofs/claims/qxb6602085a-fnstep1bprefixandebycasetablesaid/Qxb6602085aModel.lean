/-
  WALKS (seat b6602085a): the model's own functions: wb1Consonants, wb1Measure, wb1AnyVowel, wb1EndsWith, wb1PrefixPlusE.
-/
import Derived.Test.Qxb6602085aWalkD
import Derived.Test.Qxb6602085aPlain2
namespace Go.Proofs.Qxb6602085a
open Go.RowKit Go.Lib

theorem Try.info4 : (Try.prog.info? 4).map (fun i => (i.zero, i.size, i.bytes)) = some (some (.bool false), 1, 1) := by kernel_rfl

/-- A new row of n bools: which bytes of l are consonants. -/
def CRow (w : World) (B n : Nat) (l : List UInt8) : Prop := w.rowIs B 4 n (fun i => .bool (cons l i))
def CPart (w : World) (B n k : Nat) (l : List UInt8) : Prop := w.rowIs B 4 n (fun i => if i < k then .bool (cons l i) else .bool false)

theorem cpart_next {w : World} {B n k : Nat} {l : List UInt8} {v : Bool} (hv : cons l k = v) (h : CPart w B n k l) : CPart (w.setCell ⟨B, k, none⟩ (.bool v)) B n (k + 1) l := by
  subst hv
  refine (World.rowIs.set h k _).congr fun i _ => ?_
  by_cases e : i = k
  · subst e; simp
  · by_cases e2 : i < k
    · rw [if_neg e, if_pos e2, if_pos (by omega)]
    · rw [if_neg e, if_neg e2, if_neg (by omega)]

theorem cons_y {l : List UInt8} {k : Nat} (hv : isV (l.getD k 0) = false) (hy : (((l.getD k 0).toNat : Int) == 121) = true) : cons l k = if k = 0 then true else !cons l (k - 1) := by
  cases k with
  | zero => show (!isV (l.getD 0 0)) = true; rw [hv]; rfl
  | succ i =>
    have hy' : (l.getD (i + 1) 0 == 121) = true := by rw [beqInt]; exact hy
    show (if isV (l.getD (i + 1) 0) then false else if l.getD (i + 1) 0 == 121 then !cons l i else true) = !cons l i
    rw [hv, hy']
    rfl
theorem cons_v {l : List UInt8} {k : Nat} (hv : isV (l.getD k 0) = true) : cons l k = false := by
  cases k with
  | zero => show (!isV (l.getD 0 0)) = false; rw [hv]; rfl
  | succ i =>
    show (if isV (l.getD (i + 1) 0) then false else if l.getD (i + 1) 0 == 121 then !cons l i else true) = false
    rw [hv]
    rfl
theorem cons_o {l : List UInt8} {k : Nat} (hv : isV (l.getD k 0) = false) (hy : (((l.getD k 0).toNat : Int) == 121) = false) : cons l k = true := by
  cases k with
  | zero => show (!isV (l.getD 0 0)) = true; rw [hv]; rfl
  | succ i =>
    have hy' : (l.getD (i + 1) 0 == 121) = false := by rw [beqInt]; exact hy
    show (if isV (l.getD (i + 1) 0) then false else if l.getD (i + 1) 0 == 121 then !cons l i else true) = true
    rw [hv, hy']
    rfl

set_option maxRecDepth 1000000 in
set_option maxHeartbeats 1000000 in
theorem consonants_any (b o n c : Nat) (l : List UInt8) (w : World) (H : Hid (BS w b o n l)) (hb : b < w.heap.size) (hn : n ≤ 2097152) :
    Calls Try.prog 22 #[.slice (some ⟨b, o, none⟩) n c] w fun e w' => e = .returned (.slice (some ⟨w.heap.size, 0, none⟩) n n) ∧ Below w.heap.size w w' ∧ CRow w' w.heap.size n l := by
  have hmk := run_make_row' (P := Try.prog) 36 4 (.bool false) 1 Try.underlying36 Try.info4 rfl .i64 .i64 n (by omega) (by omega)
  go_enter Try.func22, Try.ntmps22
  go_wp2
  go_loopw [4, 5] (fun i _ wr => ∃ k : Nat, k ≤ n ∧ i = .int .i64 k ∧ Hid (Below w.heap.size w wr) ∧ Hid (CPart wr w.heap.size n k l)) (fun i _ _ => n - (RowKit.intOf i).toNat)
  case atStart => exact ⟨0, Nat.zero_le _, rfl, (Below.refl _ _).alloc (Nat.le_refl _) _, (World.rowIs_made w (.bool false) n 4).congr fun i _ => by simp⟩
  case round =>
    obtain ⟨k, hk, rfl, HB, HR⟩ := hrel
    by_cases hlt : k < n
    · have hcx : wr.cell? ⟨b, o + k, none⟩ = some (.int .u8 (l.getD k 0).toNat) := by rw [HB.out.cell (p := ⟨b, o + k, none⟩) hb]; exact H.out.cell k hlt
      have hcd := World.rowIs.cell HR.out hlt
      have hfd := World.rowIs.frozen HR.out k
      rw [if_neg (by omega)] at hcd
      obtain ⟨x, hx⟩ : ∃ x : UInt8, l.getD k 0 = x := ⟨_, rfl⟩
      rw [hx] at hcx
      have HX : Hid (l.getD k 0 = x) := hx
      clear hx
      cases hv : isV x
      · cases hy : ((x.toNat : Int) == 121)
        · go_wp2_with (go_at_call 26; refine (aeiou_any x _).mono ?_; rintro e w' ⟨rfl, hw⟩; rw [hw, hv]; clear hw)
          go_roundw
          case rel => exact ⟨k + 1, by omega, by go_num, HB.out.setCell (Nat.le_refl _) _, cpart_next (cons_o (by rw [HX.out]; exact hv) (by rw [HX.out]; exact hy)) HR.out⟩
          case measure => simp [RowKit.intOf]; omega
        · by_cases hk0 : k = 0
          · subst hk0
            rw [Nat.add_zero] at hcx
            go_wp2_with (go_at_call 26; refine (aeiou_any x _).mono ?_; rintro e w' ⟨rfl, hw⟩; rw [hw, hv]; clear hw)
            go_roundw
            case rel => exact ⟨1, by omega, by go_num, HB.out.setCell (Nat.le_refl _) _, cpart_next ((cons_y (by rw [HX.out]; exact hv) (by rw [HX.out]; exact hy)).trans rfl) HR.out⟩
            case measure => simp [RowKit.intOf]; omega
          · obtain ⟨i, rfl⟩ : ∃ i, k = i + 1 := ⟨k - 1, by omega⟩
            have hcp := World.rowIs.cell HR.out (show i < n by omega)
            rw [if_pos (by omega)] at hcp
            obtain ⟨p, hp⟩ : ∃ p : Bool, cons l i = p := ⟨_, rfl⟩
            rw [hp] at hcp
            have HP : Hid (cons l i = p) := hp
            clear hp
            have hi0 : ((i : Int) + 1 == 0) = false := beq_eq_false_iff_ne.2 (by omega)
            go_wp2_with (go_at_call 26; refine (aeiou_any x _).mono ?_; rintro e w' ⟨rfl, hw⟩; rw [hw, hv]; clear hw)
            go_roundw
            case rel => exact ⟨i + 1 + 1, by omega, by go_num, HB.out.setCell (Nat.le_refl _) _, cpart_next ((cons_y (by rw [HX.out]; exact hv) (by rw [HX.out]; exact hy)).trans (by rw [if_neg (by omega), show i + 1 - 1 = i from rfl, HP.out])) HR.out⟩
            case measure => simp [RowKit.intOf]; omega
      · go_wp2_with (go_at_call 26; refine (aeiou_any x _).mono ?_; rintro e w' ⟨rfl, hw⟩; rw [hw, hv]; clear hw)
        go_roundw
        case rel => exact ⟨k + 1, by omega, by go_num, HB.out.setCell (Nat.le_refl _) _, cpart_next (cons_v (by rw [HX.out]; exact hv)) HR.out⟩
        case measure => simp [RowKit.intOf]; omega
    · go_wp2
      go_ret
      obtain rfl : k = n := by omega
      exact ⟨rfl, HB.out, HR.out.congr fun i hi => by rw [if_pos hi]⟩

set_option maxRecDepth 1000000 in
set_option maxHeartbeats 1000000 in
theorem consonants_zero (a : Option Addr) (c : Nat) (w : World) :
    Calls Try.prog 22 #[.slice a 0 c] w fun e w' => e = .returned (.slice (some ⟨w.heap.size, 0, none⟩) 0 0) ∧ Below w.heap.size w w' := by
  have hmk : ∀ w, (Instr.makeSlice 36 (.int .i64 0) (.int .i64 0)).run Try.prog w = .ok (.slice (some ⟨w.heap.size, 0, none⟩) 0 0) (w.alloc (.cells (madeCells #[.bool false] 0) 4)) := run_make_row' (P := Try.prog) 36 4 (.bool false) 1 Try.underlying36 Try.info4 rfl .i64 .i64 0 (by omega) (by omega)
  go_enter Try.func22, Try.ntmps22
  go_wp2
  refine wp_loop_rounds 1 ?_
  rw [rounds_succ]
  go_wp2
  go_ret
  exact ⟨rfl, (Below.refl _ _).alloc (Nat.le_refl _) _⟩

/-- How many runs of vowels start in the first k. -/
def runsTo (l : List UInt8) : Nat → Nat
  | 0 => 0
  | j + 1 => runsTo l j + (if cons l j = false ∧ (j = 0 ∨ cons l (j - 1) = true) then 1 else 0)
theorem runsTo_succ (l : List UInt8) (j : Nat) : runsTo l (j + 1) = runsTo l j + (if cons l j = false ∧ (j = 0 ∨ cons l (j - 1) = true) then 1 else 0) := rfl
theorem runs_meas (l : List UInt8) : ∀ n, runsTo l n = measTo l n + (if 0 < n ∧ cons l (n - 1) = false then 1 else 0)
  | 0 => rfl
  | j + 1 => by
    have ih := runs_meas l j
    rw [runsTo_succ, measTo_succ, ih, show j + 1 - 1 = j from rfl]
    by_cases hj : j = 0
    · subst hj
      cases cons l 0 <;> simp
    · cases h1 : cons l j <;> cases h2 : cons l (j - 1) <;> simp [hj] <;> omega

set_option maxRecDepth 1000000 in
set_option maxHeartbeats 1000000 in
theorem wmeasure_any (B N n c : Nat) (l : List UInt8) (w : World) (H : Hid (CRow w B N l)) (hn : n ≤ N) (h1 : 1 ≤ n) (hN : N ≤ 2097152) :
    Calls Try.prog 24 #[.slice (some ⟨B, 0, none⟩) N c, .int .i64 (n : Int)] w fun e w' => e = .returned (.int .i64 (measTo l n)) ∧ w' = w := by
  go_enter Try.func24, Try.ntmps24
  go_wp2
  go_loop [5, 6] (fun r i => ∃ k q : Nat, k ≤ n ∧ q ≤ k ∧ i = .int .i64 k ∧ r = .int .i64 q ∧ Hid (q = runsTo l k)) (fun _ i => n - (RowKit.intOf i).toNat)
  case atStart => exact ⟨0, 0, Nat.zero_le _, Nat.le_refl _, rfl, rfl, rfl⟩
  case round =>
    obtain ⟨k, q, hk, hq, rfl, rfl, HQ⟩ := hrel
    by_cases hlt : k < n
    · have hc := World.rowIs.cell H.out (show k < N by omega)
      by_cases hk0 : k = 0
      · subst hk0
        cases hv : cons l 0 <;> rw [hv] at hc
        · go_wp2
          go_round
          case rel => exact ⟨1, q + 1, by omega, by omega, by go_num, by go_num, by show _ = _; rw [runsTo_succ, if_pos ⟨hv, Or.inl rfl⟩, ← HQ.out]⟩
          case measure => simp [RowKit.intOf]; omega
        · go_wp2
          go_round
          case rel => exact ⟨1, q, by omega, by omega, by go_num, rfl, by show _ = _; rw [runsTo_succ, if_neg (by rw [hv]; simp), ← HQ.out]; rfl⟩
          case measure => simp [RowKit.intOf]; omega
      · obtain ⟨i, rfl⟩ : ∃ i, k = i + 1 := ⟨k - 1, by omega⟩
        have hcp := World.rowIs.cell H.out (show i < N by omega)
        have hi0 : ((i : Int) + 1 == 0) = false := beq_eq_false_iff_ne.2 (by omega)
        cases hv : cons l (i + 1) <;> rw [hv] at hc
        · cases hp : cons l i <;> rw [hp] at hcp
          · go_wp2
            go_round
            case rel => exact ⟨i + 1 + 1, q, by omega, by omega, by go_num, rfl, by show _ = _; rw [runsTo_succ, if_neg (by rw [show i + 1 - 1 = i from rfl, hp]; simp), ← HQ.out]; rfl⟩
            case measure => simp [RowKit.intOf]; omega
          · go_wp2
            go_round
            case rel => exact ⟨i + 1 + 1, q + 1, by omega, by omega, by go_num, by go_num, by show _ = _; rw [runsTo_succ, if_pos ⟨hv, Or.inr hp⟩, ← HQ.out]⟩
            case measure => simp [RowKit.intOf]; omega
        · go_wp2
          go_round
          case rel => exact ⟨i + 1 + 1, q, by omega, by omega, by go_num, rfl, by show _ = _; rw [runsTo_succ, if_neg (by rw [hv]; simp), ← HQ.out]; rfl⟩
          case measure => simp [RowKit.intOf]; omega
    · obtain rfl : k = n := by omega
      obtain ⟨i, rfl⟩ : ∃ i, k = i + 1 := ⟨k - 1, by omega⟩
      have hcp := World.rowIs.cell H.out (show i < N by omega)
      have hrm := runs_meas l (i + 1)
      rw [← HQ.out, show i + 1 - 1 = i from rfl] at hrm
      cases hp : cons l i <;> rw [hp] at hcp hrm
      · rw [if_pos ⟨by omega, rfl⟩] at hrm
        have HM : Hid (q = measTo l (i + 1) + 1) := hrm
        clear hrm
        go_wp2
        go_ret
        exact ⟨ret_int (by rw [HM.out]; omega), rfl⟩
      · rw [if_neg (by simp)] at hrm
        have HM : Hid (q = measTo l (i + 1) + 0) := hrm
        clear hrm
        go_wp2
        go_ret
        exact ⟨ret_int (by rw [HM.out]; rfl), rfl⟩

set_option maxRecDepth 1000000 in
set_option maxHeartbeats 1000000 in
theorem anyVowel_any (B N n c : Nat) (l : List UInt8) (w : World) (H : Hid (CRow w B N l)) (hn : n ≤ N) (hN : N ≤ 2097152) :
    Calls Try.prog 25 #[.slice (some ⟨B, 0, none⟩) N c, .int .i64 (n : Int)] w fun e w' => e = .returned (.bool (hvTo l n)) ∧ w' = w := by
  go_enter Try.func25, Try.ntmps25
  go_wp2
  go_loop [5] (fun i => ∃ k : Nat, k ≤ n ∧ i = .int .i64 k ∧ Hid (hvTo l k = false)) (fun i => n - (RowKit.intOf i).toNat)
  case atStart => exact ⟨0, Nat.zero_le _, rfl, rfl⟩
  case round =>
    obtain ⟨k, hk, rfl, H0⟩ := hrel
    by_cases hlt : k < n
    · have hc := World.rowIs.cell H.out (show k < N by omega)
      cases hv : cons l k <;> rw [hv] at hc
      · go_wp2
        go_ret
        exact ⟨ret_bool (hvTo_true hv n hlt).symm, rfl⟩
      · go_wp2
        go_round
        case rel => exact ⟨k + 1, by omega, by go_num, by show (hvTo l k || !cons l k) = false; rw [H0.out, hv]; rfl⟩
        case measure => simp [RowKit.intOf]; omega
    · go_wp2
      go_ret
      obtain rfl : k = n := by omega
      exact ⟨ret_bool H0.out.symm, rfl⟩
end Go.Proofs.Qxb6602085a
