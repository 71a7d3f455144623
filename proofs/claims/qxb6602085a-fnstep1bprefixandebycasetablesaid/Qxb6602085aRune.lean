/-
  strings.IndexRune at a rune of 128 or more, in a text of ASCII bytes: it is not there: -1.
-/
import Derived.Test.Qxb6602085aShelf
import Derived.WalkKit
import Derived.WalkSpells
import Derived.WalkLawsBesides
import Derived.Lib.OthersKept
import Derived.BigQuiet
import Derived.Deep.QuietTactic
import Derived.Deep.LoopGhost
namespace Go.Proofs.Qxb6602085a
open Go.RowKit Go.Lib

set_option maxRecDepth 1000000 in
set_option maxHeartbeats 400000 in
theorem rune_bad (s : ByteArray) (r : Int) (w : World) (h1 : 128 ≤ r) (h2 : (r == 65533) = false) (hv : Lib.validRune r = false) :
    Calls Try.prog 36 #[.string s, .int .i32 r] w fun e w' => e = .returned (.int .i64 (-1)) ∧ w' = w := by
  go_enter Try.func36, Try.ntmps36
  go_wp2_with (go_at_call 38; refine (Try.utf8_ValidRune _ _).mono ?_; rintro e w' ⟨rfl, rfl⟩; rw [hv])
  go_ret
  exact ⟨rfl, rfl⟩

theorem index_at (s : ByteArray) (k : Nat) (h : k < s.size) (w : World) : (Instr.index 9 (.string s) (.int .i64 (k : Int))).run Try.prog w = .ok (.int .u8 (s[k]'h).toNat) w := by
  rw [run_index_string (h := Try.underlying9), dif_pos ⟨by omega, by omega⟩]
  rfl
theorem slice_from (s : ByteArray) (k : Nat) (h : k + 1 ≤ s.size) (w : World) : (Instr.slice 9 (.string s) (some (.int .i64 ((k : Int) + 1))) none none).run Try.prog w = .ok (.string (s.extract (k + 1) s.size)) w := by
  rw [run_slice_string_l (ht := Try.underlying9) (h0 := by omega) (h1 := by omega)]
  rfl

set_option maxRecDepth 1000000 in
set_option maxHeartbeats 400000 in
theorem rune_ok_long (s E : ByteArray) (L : Nat) (r : Int) (w : World) (h1 : 128 ≤ r) (h2 : (r == 65533) = false) (hv : Lib.validRune r = true) (hE : Utf8.encode r = E) (hL : E.size = L + 1) (hL3 : L ≤ 3)
    (hl : ¬ L < s.size) :
    Calls Try.prog 36 #[.string s, .int .i32 r] w fun e w' => e = .returned (.int .i64 (-1)) ∧ w' = w := by
  go_enter Try.func36, Try.ntmps36
  go_wp2_with (go_at_call 38; refine (Try.utf8_ValidRune _ _).mono ?_; rintro e w' ⟨rfl, rfl⟩; rw [hv])
  go_step3
  go_wp2
  refine wp_loop_rounds 1 ?_
  rw [rounds_succ]
  go_wp2
  rw [Exit.noGoto_ret]
  go_ret
  exact ⟨rfl, rfl⟩

set_option maxRecDepth 1000000 in
set_option maxHeartbeats 400000 in
theorem rune_ok_short (s E : ByteArray) (L : Nat) (c : UInt8) (r : Int) (w : World) (h1 : 128 ≤ r) (h2 : (r == 65533) = false) (hv : Lib.validRune r = true) (hE : Utf8.encode r = E) (hL : E.size = L + 1) (hL3 : L ≤ 3)
    (hl : L < s.size) (_hs : s.size ≤ 2097152)
    (i2 : ∀ w, (Instr.index 9 (.string E) (.int .i64 (L : Int))).run Try.prog w = .ok (.int .u8 c.toNat) w)
    (hne : ((s[L].toNat : Int) != (c.toNat : Int)) = true)
    (hix : Lib.indexByte (s.extract (L + 1) s.size).data.toList c = -1) :
    Calls Try.prog 36 #[.string s, .int .i32 r] w fun e w' => e = .returned (.int .i64 (-1)) ∧ ∃ n, w' = w.drewN n := by
  have HC : Hid (∀ w, Calls Try.prog 37 #[.string (s.extract (L + 1) s.size), .int .u8 c.toNat] w fun e w' => e = .returned (.int .i64 (-1)) ∧ w' = w) := fun w => by
    have := Try.strings_IndexByte (s.extract (L + 1) s.size) c.toNat w
    rw [show ((c.toNat : Int)).toNat.toUInt8 = c by simp, hix] at this
    exact this
  clear hix
  go_enter Try.func36, Try.ntmps36
  go_wp2_with (go_at_call 38; refine (Try.utf8_ValidRune _ _).mono ?_; rintro e w' ⟨rfl, rfl⟩; rw [hv])
  go_step3
  go_wp2
  refine wp_loop_rounds 1 ?_
  rw [rounds_succ]
  have i1 := index_at s L hl
  have i3 := slice_from s L (by omega)
  have iw : IntKind.i64.wrap ((L : Int) + 1) = (L : Int) + 1 := wrap_small _ (by omega) (by omega)
  go_wp2
  go_step3
  go_wp2
  go_quiet (fail)
  go_wp2
  go_quiet ((go_at_call 37; exact (HC.out _).mono fun _ _ ⟨he, hm⟩ => ⟨he, _, hm⟩))
  go_wp2
  rw [Exit.noGoto_ret]
  simp only [Exit.inBlock, Exit.then]
  rw [Exit.noGoto_ret]
  go_ret
  exact ⟨rfl, _, rfl⟩

theorem indexByte_absent (l : List UInt8) (c : UInt8) (h : ∀ b ∈ l, b ≠ c) : Lib.indexByte l c = -1 := by
  induction l with
  | nil => rfl
  | cons b l ih =>
    have hb : (b == c) = false := by simpa using h b (List.mem_cons_self)
    rw [Lib.indexByte, hb, ih (fun x hx => h x (List.mem_cons_of_mem _ hx))]
    rfl

end Go.Proofs.Qxb6602085a
