/-
  strings.IndexRune at a rune of 128 or more, in a text of ASCII bytes: it is not there: -1.
-/
import Derived.Test.Qxb6602029aShelf
import Derived.WalkKit
import Derived.WalkSpells
import Derived.WalkLawsBesides
import Derived.Lib.OthersKept
import Derived.BigQuiet
import Derived.Deep.QuietTactic
import Derived.Deep.LoopGhost
namespace Go.Proofs.Qxb6602029a
open Go.RowKit Go.Lib

set_option maxRecDepth 1000000 in
set_option maxHeartbeats 400000 in
theorem rune_bad (s : ByteArray) (r : Int) (w : World) (h1 : 128 ≤ r) (h2 : (r == 65533) = false) (hv : Lib.validRune r = false) :
    Calls Try.prog 18 #[.string s, .int .i32 r] w fun e w' => e = .returned (.int .i64 (-1)) ∧ w' = w := by
  go_enter Try.func18, Try.ntmps18
  go_wp2_with (go_at_call 25; refine (Try.utf8_ValidRune _ _).mono ?_; rintro e w' ⟨rfl, rfl⟩; rw [hv])
  go_ret
  exact ⟨rfl, rfl⟩

theorem index_at (s : ByteArray) (k : Nat) (h : k < s.size) (w : World) : (Instr.index 9 (.string s) (.int .i64 (k : Int))).run Try.prog w = .ok (.int .u8 (s[k]'h).toNat) w := by
  rw [run_index_string (h := Try.underlying9), dif_pos ⟨by omega, by omega⟩]
  rfl
theorem slice_from (s : ByteArray) (k : Nat) (h : k + 1 ≤ s.size) (w : World) : (Instr.slice 9 (.string s) (some (.int .i64 ((k : Int) + 1))) none none).run Try.prog w = .ok (.string (s.extract (k + 1) s.size)) w := by
  rw [run_slice_string_l (ht := Try.underlying9) (h0 := by omega) (h1 := by omega)]
  rfl

set_option maxRecDepth 1000000 in
set_option maxHeartbeats 400000 in
theorem rune_ok_long (s E : ByteArray) (L : Nat) (r : Int) (w : World) (h1 : 128 ≤ r) (h2 : (r == 65533) = false) (hv : Lib.validRune r = true) (hE : Utf8.encode r = E) (hL : E.size = L + 1) (hL3 : L ≤ 3)
    (hl : ¬ L < s.size) :
    Calls Try.prog 18 #[.string s, .int .i32 r] w fun e w' => e = .returned (.int .i64 (-1)) ∧ w' = w := by
  go_enter Try.func18, Try.ntmps18
  go_wp2_with (go_at_call 25; refine (Try.utf8_ValidRune _ _).mono ?_; rintro e w' ⟨rfl, rfl⟩; rw [hv])
  go_step3
  go_wp2
  refine wp_loop_rounds 1 ?_
  rw [rounds_succ]
  go_wp2
  rw [Exit.noGoto_ret]
  go_ret
  exact ⟨rfl, rfl⟩

set_option maxRecDepth 1000000 in
set_option maxHeartbeats 400000 in
theorem rune_ok_short (s E : ByteArray) (L : Nat) (c : UInt8) (r : Int) (w : World) (h1 : 128 ≤ r) (h2 : (r == 65533) = false) (hv : Lib.validRune r = true) (hE : Utf8.encode r = E) (hL : E.size = L + 1) (hL3 : L ≤ 3)
    (hl : L < s.size) (_hs : s.size ≤ 2097152)
    (i2 : ∀ w, (Instr.index 9 (.string E) (.int .i64 (L : Int))).run Try.prog w = .ok (.int .u8 c.toNat) w)
    (hne : ((s[L].toNat : Int) != (c.toNat : Int)) = true)
    (hix : Lib.indexByte (s.extract (L + 1) s.size).data.toList c = -1) :
    Calls Try.prog 18 #[.string s, .int .i32 r] w fun e w' => e = .returned (.int .i64 (-1)) ∧ ∃ n, w' = w.drewN n := by
  have HC : Hid (∀ w, Calls Try.prog 24 #[.string (s.extract (L + 1) s.size), .int .u8 c.toNat] w fun e w' => e = .returned (.int .i64 (-1)) ∧ w' = w) := fun w => by
    have := Try.strings_IndexByte (s.extract (L + 1) s.size) c.toNat w
    rw [show ((c.toNat : Int)).toNat.toUInt8 = c by simp, hix] at this
    exact this
  clear hix
  go_enter Try.func18, Try.ntmps18
  go_wp2_with (go_at_call 25; refine (Try.utf8_ValidRune _ _).mono ?_; rintro e w' ⟨rfl, rfl⟩; rw [hv])
  go_step3
  go_wp2
  refine wp_loop_rounds 1 ?_
  rw [rounds_succ]
  have i1 := index_at s L hl
  have i3 := slice_from s L (by omega)
  have iw : IntKind.i64.wrap ((L : Int) + 1) = (L : Int) + 1 := wrap_small _ (by omega) (by omega)
  go_wp2
  go_step3
  go_wp2
  go_quiet (fail)
  go_wp2
  go_quiet ((go_at_call 24; exact (HC.out _).mono fun _ _ ⟨he, hm⟩ => ⟨he, _, hm⟩))
  go_wp2
  rw [Exit.noGoto_ret]
  simp only [Exit.inBlock, Exit.then]
  rw [Exit.noGoto_ret]
  go_ret
  exact ⟨rfl, _, rfl⟩

set_option maxRecDepth 1000000 in
set_option maxHeartbeats 1000000 in
theorem rune_err (s : ByteArray) (w : World) (hascii : ∀ (j : Nat) b, s.data.toList[j]? = some b → b.toNat < 128) :
    Calls Try.prog 18 #[.string s, .int .i32 65533] w fun e w' => e = .returned (.int .i64 (-1)) ∧ ∃ pos, w' = w.iter s pos := by
  have HA : Hid (∀ (j : Nat) b, s.data.toList[j]? = some b → b.toNat < 128) := hascii
  clear hascii
  go_enter Try.func18, Try.ntmps18
  go_wp2
  go_loopg [5, 6] s.size (fun g _ _ wx => ∃ i : Nat, i + g = s.size ∧ wx = w.iter s i)
  case atStart => exact ⟨0, by omega, rfl⟩
  case round =>
    obtain ⟨i, hig, rfl⟩ := hrel
    cases gk with
    | zero =>
      obtain rfl : i = s.size := by omega
      have hnx := run_next_end (P := Try.prog) w s s.size
      go_wp2
      go_ret
      exact ⟨rfl, _, rfl⟩
    | succ g =>
      have hi : i < s.size := by omega
      obtain ⟨x, hx⟩ : ∃ x : UInt8, s[i]'hi = x := ⟨_, rfl⟩
      have hxl : s.data.toList[i]? = some x := by rw [← hx]; exact Lib.data_getElem? s i hi
      have hx128 : x.toNat < 128 := HA.out i x hxl
      have hnx := fun ty => run_next_ascii (P := Try.prog) w s i ty hi (by rw [hx]; exact hx128)
      rw [hx] at hnx
      clear hxl hx
      have hne : ((x.toNat : Int) == 65533) = false := beq_eq_false_iff_ne.2 (by omega)
      go_wp2
      go_roundg g
      case measure => omega
      case rel => exact ⟨i + 1, by omega, rfl⟩

theorem indexByte_absent (l : List UInt8) (c : UInt8) (h : ∀ b ∈ l, b ≠ c) : Lib.indexByte l c = -1 := by
  induction l with
  | nil => rfl
  | cons b l ih =>
    have hb : (b == c) = false := by simpa using h b (List.mem_cons_self)
    rw [Lib.indexByte, hb, ih (fun x hx => h x (List.mem_cons_of_mem _ hx))]
    rfl

/-- A rune of 128 or more in a text of ASCII bytes: it is not there. -/
theorem rune_high (s : ByteArray) (r : Int) (w : World) (h1 : 128 ≤ r) (hs : s.size ≤ 2097152) (hascii : ∀ (j : Nat) b, s.data.toList[j]? = some b → b.toNat < 128) :
    Calls Try.prog 18 #[.string s, .int .i32 r] w fun e w' => e = .returned (.int .i64 (-1)) ∧ Below w.heap.size w w' := by
  by_cases h2 : r = 65533
  · subst h2
    refine (rune_err s w hascii).mono fun e w' ⟨he, pos, hw⟩ => ⟨he, ?_⟩
    rw [hw]
    exact (Below.refl _ _).alloc (Nat.le_refl _) _
  · have h2' : (r == 65533) = false := by simpa using h2
    cases hv : Lib.validRune r
    · exact (rune_bad s r w h1 h2' hv).mono fun e w' ⟨he, hw⟩ => ⟨he, hw ▸ Below.refl _ _⟩
    · obtain ⟨f1, f2, f3⟩ := encode_facts r (by rw [validRune_eq]; exact hv) h1
      obtain ⟨E, hE⟩ : ∃ E, Utf8.encode r = E := ⟨_, rfl⟩
      obtain ⟨L, hL⟩ : ∃ L, E.size = L + 1 := ⟨E.size - 1, by rw [← hE]; omega⟩
      rw [hE] at f1 f2
      by_cases hl : L < s.size
      · have f3' := f3 (by rw [hE]; omega)
        obtain ⟨c, hc⟩ : ∃ c : UInt8, E[L]'(by omega) = c := ⟨_, rfl⟩
        have hc128 : 128 ≤ c.toNat := by
          rw [← hc]
          subst hE
          have e : (Utf8.encode r).size - 1 = L := by omega
          simpa [e] using f3'
        have hsl : s[L].toNat < 128 := hascii L s[L] (Lib.data_getElem? s L hl)
        refine (rune_ok_short s E L c r w h1 h2' hv hE hL (by omega) hl hs (fun w => ?_) ?_ ?_).mono fun e w' ⟨he, n, hw⟩ => ⟨he, ?_⟩
        · rw [index_at E L (by omega) w, hc]
        · simp; omega
        · refine indexByte_absent _ _ fun b hb hbc => ?_
          have hm := mem_extract hb
          obtain ⟨j, hj⟩ := List.mem_iff_getElem?.1 hm
          have := hascii j b hj
          rw [hbc] at this
          omega
        · rw [hw]
          exact ⟨rfl, rfl, rfl, Nat.le_refl _, fun _ _ => rfl⟩
      · exact (rune_ok_long s E L r w h1 h2' hv hE hL (by omega) hl).mono fun e w' ⟨he, hw⟩ => ⟨he, hw ▸ Below.refl _ _⟩
end Go.Proofs.Qxb6602029a
