/-
  strings.IndexAny at a set of ASCII bytes (two or more), s whatever bytes: the first place of a byte of the set.
-/
import Derived.Test.Qxb6602029aRune
namespace Go.Proofs.Qxb6602029a
open Go.RowKit Go.Lib

/-- What a decoding from a byte of 128 or more steps over: bytes of 128 or more, all of them of s. -/
theorem decode_span (s : ByteArray) (pos : Nat) (h : pos < s.size) (ha : 128 ≤ (s[pos]'h).toNat) :
    pos + (Utf8.decode s pos).2 ≤ s.size ∧ ∀ k, k < (Utf8.decode s pos).2 → 128 ≤ (s.get! (pos + k)).toNat := by
  have hn : ¬ (s[pos]'h).toNat < 128 := by omega
  have h0 : 128 ≤ (s.get! (pos + 0)).toNat := by rw [get_at s pos h]; exact ha
  have one : ∀ k, k < 1 → 128 ≤ (s.get! (pos + k)).toNat := fun k hk => by
    obtain rfl : k = 0 := by omega
    exact h0
  simp only [Utf8.decode, get_at s pos h, hn, if_false]
  repeat' split
  all_goals simp only [Bool.and_eq_true, decide_eq_true_eq, beq_iff_eq] at *
  all_goals first
    | exact ⟨by omega, one⟩
    | (refine ⟨by omega, fun k hk => ?_⟩
       rcases (by omega : k = 0 ∨ k = 1 ∨ k = 2 ∨ k = 3) with rfl | rfl | rfl | rfl <;> first | exact h0 | omega)

theorem get!_list (s : ByteArray) (j : Nat) (b : UInt8) (hb : s.data.toList[j]? = some b) : s.get! j = b := by
  have hj : j < s.size := by
    have := (List.getElem?_eq_some_iff.1 hb).1
    rw [size_eq]; exact this
  have h2 := Lib.data_getElem? s j hj
  have e := get_at s j hj
  rw [hb] at h2
  rw [show s.get! j = s.get! (j + 0) from rfl, e]
  exact (Option.some.inj h2).symm

theorem noAny_step (s chars : ByteArray) (i : Nat) (hi : i < s.size) (ha : 128 ≤ (s[i]'hi).toNat) (hchars : ∀ (j : Nat) b, chars.data.toList[j]? = some b → b.toNat < 128)
    (h : NoAny s.data.toList chars.data.toList i) : NoAny s.data.toList chars.data.toList (i + (Utf8.decode s i).2) := by
  intro j b hj hb
  by_cases hlt : j < i
  · exact h j b hlt hb
  · obtain ⟨k, rfl⟩ : ∃ k, j = i + k := ⟨j - i, by omega⟩
    have h1 := (decode_span s i hi ha).2 k (by omega)
    rw [get!_list s (i + k) b hb] at h1
    cases hc : chars.data.toList.contains b with
    | false => rfl
    | true =>
      have hm : b ∈ chars.data.toList := by simpa using hc
      obtain ⟨q, hq⟩ := List.mem_iff_getElem?.1 hm
      have := hchars q b hq
      omega

set_option maxHeartbeats 2000000 in
set_option maxRecDepth 1000000 in
theorem any_short (s chars : ByteArray) (w : World) (h2 : 2 ≤ chars.size) (hcs : chars.size ≤ 2097152) (h8 : s.size ≤ 8) (hchars : ∀ (j : Nat) b, chars.data.toList[j]? = some b → b.toNat < 128) :
    Calls Try.prog 15 #[.string s, .string chars] w fun e w' => e = .returned (.int .i64 (Lib.indexAny s.data.toList chars.data.toList)) ∧ Below w.heap.size w w' := by
  have HA : Hid (∀ (j : Nat) b, chars.data.toList[j]? = some b → b.toNat < 128) := hchars
  clear hchars
  have hemp : chars.toList.isEmpty = false := by
    rw [Lib.toList_data]
    cases h : chars.data.toList with
    | nil => have := Lib.size_eq chars; rw [h, List.length_nil] at this; omega
    | cons _ _ => rfl
  have hn1 : ((chars.size : Int) == 1) = false := beq_eq_false_iff_ne.2 (by omega)
  have h8z : decide ((8 : Int) < (s.size : Int)) = false := decide_eq_false (by omega)
  go_enter Try.func15, Try.ntmps15
  go_wp2_with (go_at_call 19; refine (Try.strings_shouldUseASCIISet _ _).mono ?_; rintro e w' ⟨rfl, hw⟩; rw [hw, h8z])
  go_loopg [9, 10] s.size (fun g _ _ wx => ∃ i : Nat, i + g = s.size ∧ Hid (Below w.heap.size w wx) ∧ Hid (wx.heap[w.heap.size]? = some (.stringIter s i)) ∧ Hid (Lib.NoAny s.data.toList chars.data.toList i))
  case atStart => exact ⟨0, by omega, (Below.refl _ _).alloc (Nat.le_refl _) _, World.iter_heap _ _ _, Lib.NoAny.zero _ _⟩
  case round =>
    obtain ⟨i, hig, HB, HK, HN⟩ := hrel
    cases gk with
    | zero =>
      obtain rfl : i = s.size := by omega
      have hnx := fun ty => run_next_end_at (P := Try.prog) wr w.heap.size s s.size ty HK.out (by omega)
      go_wp2
      go_ret
      exact ⟨by rw [Lib.indexAny_none (by rw [← Lib.size_eq]; exact HN.out)]; rfl, HB.out⟩
    | succ g =>
      have hi : i < s.size := by omega
      have hkz : w.heap.size < wr.heap.size := (Array.getElem?_eq_some_iff.1 HK.out).1
      by_cases hx128 : (s[i]'hi).toNat < 128
      · have hnx := fun ty => run_next_ascii_at (P := Try.prog) wr w.heap.size s i ty HK.out hi hx128
        have HB2 : Hid (Below w.heap.size w (wr.iterAt w.heap.size s (i + 1))) := below_iterAt HB.out (Nat.le_refl _) _ _
        have HK2 : Hid ((wr.iterAt w.heap.size s (i + 1)).heap[w.heap.size]? = some (.stringIter s (i + 1))) := iterAt_heap _ _ _ _ _ HK.out
        generalize wr.iterAt w.heap.size s (i + 1) = w2 at hnx HB2 HK2
        obtain ⟨x, hx⟩ : ∃ x : UInt8, s[i]'hi = x := ⟨_, rfl⟩
        have HX : Hid (s.data.toList[i]? = some x) := by show _ = _; rw [← hx]; exact Lib.data_getElem? s i hi
        rw [hx] at hnx hx128
        clear hx
        have hcon := Lib.contains_iff_indexByte chars.data.toList x
        have hback : ((x.toNat : Int)).toNat.toUInt8 = x := by simp
        cases hin : chars.data.toList.contains x
        · rw [hin] at hcon
          have hlt : ¬ ((0 : Int) ≤ Lib.indexByte chars.data.toList x) := of_decide_eq_false hcon.symm
          clear hcon
          go_wp2_with (go_at_call 18; refine (Try.strings_IndexRune_ascii _ _ _ (by omega) (by omega)).mono ?_; rintro e w' ⟨rfl, hw⟩; rw [hw, hback])
          go_roundg g
          case measure => omega
          case rel => exact ⟨i + 1, by omega, HB2, HK2, HN.out.succ HX.out hin⟩
        · rw [hin] at hcon
          have hge : (0 : Int) ≤ Lib.indexByte chars.data.toList x := of_decide_eq_true hcon.symm
          clear hcon
          go_wp2_with (go_at_call 18; refine (Try.strings_IndexRune_ascii _ _ _ (by omega) (by omega)).mono ?_; rintro e w' ⟨rfl, hw⟩; rw [hw, hback])
          go_ret
          exact ⟨by rw [Lib.indexAny_hit HN.out HX.out hin]; rfl, HB2.out⟩
      · have hhi : 128 ≤ (s[i]'hi).toNat := by omega
        have hnx := fun ty => run_next_any_at (P := Try.prog) wr w.heap.size s i ty HK.out hi
        have hd := decode_high s i hi hhi
        have hsp := (decode_span s i hi hhi).1
        have HN2 : Hid (Lib.NoAny s.data.toList chars.data.toList (i + (Utf8.decode s i).2)) := noAny_step s chars i hi hhi HA.out HN.out
        have HB2 : Hid (Below w.heap.size w (wr.iterAt w.heap.size s (i + (Utf8.decode s i).2))) := below_iterAt HB.out (Nat.le_refl _) _ _
        have HK2 : Hid ((wr.iterAt w.heap.size s (i + (Utf8.decode s i).2)).heap[w.heap.size]? = some (.stringIter s (i + (Utf8.decode s i).2))) := iterAt_heap _ _ _ _ _ HK.out
        clear hhi hx128
        generalize Utf8.decode s i = D at hnx hd hsp HN2 HB2 HK2
        obtain ⟨r, wd⟩ := D
        dsimp only at hnx hd hsp HN2 HB2 HK2
        obtain ⟨hr, hwd⟩ := hd
        generalize wr.iterAt w.heap.size s (i + wd) = w2 at hnx HB2 HK2
        go_wp2_with (go_at_call 18; refine (rune_high _ _ _ (by omega) hcs HA.out).mono ?_; rintro e w' ⟨rfl, hw⟩)
        go_roundg (s.size - (i + wd))
        case measure => omega
        case rel =>
          have hk2 : w.heap.size < w2.heap.size := (Array.getElem?_eq_some_iff.1 HK2.out).1
          exact ⟨i + wd, by omega, HB2.out.trans (hw.mono (by omega)), (hw.block _ hk2).trans HK2.out, HN2⟩

theorem indexAny_all (s chars : ByteArray) (w : World) (h2 : 2 ≤ chars.size) (hcs : chars.size ≤ 2097152) (hs : s.size ≤ 2097152) (hchars : ∀ (j : Nat) b, chars.data.toList[j]? = some b → b.toNat < 128) :
    Calls Try.prog 15 #[.string s, .string chars] w fun e w' => e = .returned (.int .i64 (Lib.indexAny s.data.toList chars.data.toList)) ∧ Below w.heap.size w w' := by
  by_cases h8 : s.size ≤ 8
  · exact any_short s chars w h2 hcs h8 hchars
  · have hz : (Try.prog.info? 39).map (fun i => (i.zero, i.size)) = some (some (.agg (Array.replicate 256 (.bool false))), 256) := by kernel_rfl
    refine (Try.strings_IndexAny_long (zero_of_info hz).1 s chars w h2 (by omega) (by omega) (by omega) hchars).mono fun e w' ⟨h1, h2⟩ => ⟨h1, ?_⟩
    rw [h2]
    exact ((Below.refl _ _).alloc (Nat.le_refl _) _).alloc (by simp) _
end Go.Proofs.Qxb6602029a
