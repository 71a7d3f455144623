/-
  WALKS (seat b6602085a): wb1EndsWith, wb1PrefixPlusE.
-/
import Derived.Test.Qxb6602085aModel
namespace Go.Proofs.Qxb6602085a
open Go.RowKit Go.Lib

/-- The first n bytes of l end in suf. -/
def ew (l : List UInt8) (n : Nat) (suf : List UInt8) : Bool := (l.take n).drop (n - suf.length) == suf
theorem cuts_ew (l : List UInt8) (n : Nat) (suf : List UInt8) (h : suf.length < n) : cuts l n suf = ew l n suf := by
  unfold cuts ew
  rw [decide_eq_true h, Bool.true_and]

theorem ew_get (l : List UInt8) (f : Nat) (suf : List UInt8) (_hl : f + suf.length ≤ l.length) (i : Nat) (hi : i < suf.length) : ((l.take (f + suf.length)).drop (f + suf.length - suf.length)).getD i 0 = l.getD (f + i) 0 := by
  rw [Nat.add_sub_cancel, List.getD, List.getD, List.getElem?_drop, List.getElem?_take_of_lt (by omega)]
theorem ew_true (l : List UInt8) (f : Nat) (suf : List UInt8) (hl : f + suf.length ≤ l.length) (h : ∀ i, i < suf.length → l.getD (f + i) 0 = suf.getD i 0) : ew l (f + suf.length) suf = true := by
  unfold ew
  rw [beq_iff_eq]
  have hlen : ((l.take (f + suf.length)).drop (f + suf.length - suf.length)).length = suf.length := by rw [List.length_drop, List.length_take]; omega
  apply List.ext_getElem hlen
  intro i h1 h2
  have e := ew_get l f suf hl i h2
  rw [h i h2, List.getD, List.getD, List.getElem?_eq_getElem h1, List.getElem?_eq_getElem h2] at e
  exact e
theorem ew_false (l : List UInt8) (f : Nat) (suf : List UInt8) (hl : f + suf.length ≤ l.length) (i : Nat) (hi : i < suf.length) (h : l.getD (f + i) 0 ≠ suf.getD i 0) : ew l (f + suf.length) suf = false := by
  cases he : ew l (f + suf.length) suf with
  | false => rfl
  | true =>
    exfalso
    unfold ew at he
    rw [beq_iff_eq] at he
    have e := ew_get l f suf hl i hi
    rw [he] at e
    exact h e.symm

set_option maxRecDepth 1000000 in
set_option maxHeartbeats 1000000 in
theorem endsWith_any (b o f m c : Nat) (l : List UInt8) (suf : ByteArray) (w : World) (H : Hid (BS w b o (f + m) l)) (hm : suf.size = m) (hn : f + m ≤ 2097152) :
    Calls Try.prog 23 #[.slice (some ⟨b, o, none⟩) (f + m) c, .string suf] w fun e w' => e = .returned (.bool (ew l (f + m) suf.data.toList)) ∧ ∃ q, w' = w.drewN q := by
  have hsl : suf.data.toList.length = m := by rw [← size_eq]; exact hm
  have hlen := H.out.len
  go_enter Try.func23, Try.ntmps23
  go_wp2
  go_loopw [6] (fun i wr => ∃ k : Nat, k ≤ m ∧ i = .int .i64 k ∧ Hid (∃ q, wr = w.drewN q) ∧ Hid (∀ i, i < k → l.getD (f + i) 0 = suf.data.toList.getD i 0)) (fun i _ => m - (RowKit.intOf i).toNat)
  case atStart => exact ⟨0, Nat.zero_le _, rfl, ⟨0, rfl⟩, fun i hi => absurd hi (Nat.not_lt_zero _)⟩
  case round =>
    obtain ⟨k, hk, rfl, HM, HA⟩ := hrel
    obtain ⟨q, hq⟩ := HM.out
    clear HM
    subst hq
    by_cases hlt : k < m
    · have hc := H.out.cell (f + k) (by omega)
      have hks : k < suf.size := by omega
      have i2 := index_at suf k hks
      have hsk : suf.data.toList.getD k 0 = suf[k] := by rw [List.getD, Lib.data_getElem? suf k hks]; rfl
      obtain ⟨x, hx⟩ : ∃ x : UInt8, l.getD (f + k) 0 = x := ⟨_, rfl⟩
      obtain ⟨y, hy⟩ : ∃ y : UInt8, suf[k] = y := ⟨_, rfl⟩
      rw [hx] at hc
      rw [hy] at i2 hsk
      have HX : Hid (l.getD (f + k) 0 = x) := hx
      have HY : Hid (suf.data.toList.getD k 0 = y) := hsk
      have hxy := beqInt x y
      clear hx hy hsk
      have iw : IntKind.i64.wrap ((f : Int) + (k : Int)) = (f : Int) + (k : Int) := wrap_small _ (by omega) (by omega)
      have b1 : (k : Int) < (m : Int) := by omega
      have b2 : (f : Int) + (k : Int) < (f : Int) + (m : Int) := by omega
      have b3 : (0 : Int) ≤ (f : Int) + (k : Int) := by omega
      cases hb : (x == y)
      · have hne : ((x.toNat : Int) != (y.toNat : Int)) = true := by rw [hb] at hxy; simp only [bne, ← hxy]; rfl
        have HBxy : Hid ((x == y) = false) := hb
        clear hxy hb
        go_wp2_with fail
        go_quiet (fail)
        go_wp2
        go_ret
        have e := ew_false l f suf.data.toList (by omega) k (by omega) (by rw [HX.out, HY.out]; simpa using HBxy.out)
        rw [hsl] at e
        exact ⟨ret_bool e.symm, _, World.drewN_drewN ..⟩
      · have hne : ((x.toNat : Int) != (y.toNat : Int)) = false := by rw [hb] at hxy; simp only [bne, ← hxy]; rfl
        have HBxy : Hid ((x == y) = true) := hb
        clear hxy hb
        go_wp2_with fail
        go_quiet (fail)
        go_wp2
        go_roundw
        case rel =>
          refine ⟨k + 1, by omega, by go_num, ⟨_, rfl⟩, fun i hi => ?_⟩
          by_cases e : i = k
          · subst e
            rw [HX.out, HY.out]
            simpa using HBxy.out
          · exact HA.out i (by omega)
        case measure => simp [RowKit.intOf]; omega
    · go_wp2
      go_ret
      obtain rfl : k = m := by omega
      have e := ew_true l f suf.data.toList (by omega) (fun i hi => HA.out i (by omega))
      rw [hsl] at e
      exact ⟨ret_bool e.symm, _, rfl⟩
end Go.Proofs.Qxb6602085a
