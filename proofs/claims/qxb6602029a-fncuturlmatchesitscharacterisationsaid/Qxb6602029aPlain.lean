/-
  THE PLAIN LAYER of seat b6602029a: lists of bytes; no Go in sight.
-/
import Derived.Lib.IndexAny
import Derived.Lib.CutLaws
import Derived.Lib.IndexLaws
import Derived.Lib.LastIndexByte
namespace Go.Proofs.Qxb6602029a
open Go.Lib

/-- '/', '?' or '#'. -/
def isPS (c : UInt8) : Bool := c == 47 || c == 63 || c == 35
def isAtB (c : UInt8) : Bool := c == 64
def hasPS (l : List UInt8) : Bool := l.any isPS
def hasAtB (l : List UInt8) : Bool := l.any isAtB
/-- The separator. -/
def sepL : List UInt8 := [58, 47, 47]

theorem beqInt (c k : UInt8) : (c == k) = ((c.toNat : Int) == (k.toNat : Int)) := by
  by_cases h : c = k
  · subst h; simp
  · have h' : ¬ (c.toNat : Int) = (k.toNat : Int) := fun e => h (UInt8.toNat_inj.1 (by omega))
    have h1 : (c == k) = false := by simpa using h
    have h2 : ((c.toNat : Int) == (k.toNat : Int)) = false := by simpa using h'
    rw [h1, h2]
theorem isPS_int (c : UInt8) : isPS c = ((c.toNat : Int) == 47 || (c.toNat : Int) == 63 || (c.toNat : Int) == 35) := by
  unfold isPS; rw [beqInt, beqInt, beqInt]; rfl
theorem isAtB_int (c : UInt8) : isAtB c = ((c.toNat : Int) == 64) := by
  unfold isAtB; rw [beqInt]; rfl

theorem take_snoc (s : ByteArray) (k : Nat) (h : k < s.size) : s.data.toList.take (k + 1) = s.data.toList.take k ++ [s[k]] := by
  rw [List.take_succ_eq_append_getElem (by simpa using h)]; rfl
theorem take_all (s : ByteArray) : s.data.toList.take s.size = s.data.toList := List.take_of_length_le (by rw [← size_eq]; exact Nat.le_refl _)
theorem any_snoc {p : UInt8 → Bool} {s : ByteArray} {k : Nat} (h : k < s.size) (h0 : (s.data.toList.take k).any p = false) (hk : p s[k] = false) : (s.data.toList.take (k + 1)).any p = false := by
  rw [take_snoc s k h, List.any_append, h0]; simp [hk]
theorem any_hit {p : UInt8 → Bool} {s : ByteArray} {k : Nat} (h : k < s.size) (hk : p s[k] = true) : s.data.toList.any p = true := by
  rw [List.any_eq_true]
  exact ⟨s[k], by
    have := Lib.data_getElem? s k h
    exact List.mem_of_getElem? this, hk⟩
theorem any_all {p : UInt8 → Bool} {s : ByteArray} {k : Nat} (h : ¬ k < s.size) (h0 : (s.data.toList.take k).any p = false) : s.data.toList.any p = false := by
  rw [List.take_of_length_le (by rw [← size_eq]; omega)] at h0; exact h0

/-! ### sepAt: the first place of the separator -/
theorem occ_sep (s : ByteArray) (k : Nat) (h : k + 3 ≤ s.size) : occAt s.data.toList sepL k = ((s[k]'(by omega) == 58) && (s[k + 1]'(by omega) == 47) && (s[k + 2]'(by omega) == 47)) := by
  have hd : s.data.toList.drop k = s[k]'(by omega) :: s[k + 1]'(by omega) :: s[k + 2]'(by omega) :: s.data.toList.drop (k + 3) := by
    have hl := size_eq s
    rw [List.drop_eq_getElem_cons (by omega), List.drop_eq_getElem_cons (by omega), List.drop_eq_getElem_cons (by omega)]
    rfl
  unfold occAt sepL
  rw [hd]
  simp [List.isPrefixOf, Bool.beq_comm, Bool.and_assoc]
theorem occ_yes (s : ByteArray) (k : Nat) (h : k + 3 ≤ s.size) (h0 : ((s[k]'(by omega)).toNat : Int) = 58) (h1 : ((s[k + 1]'(by omega)).toNat : Int) = 47) (h2 : (((s[k + 2]'(by omega)).toNat : Int) == 47) = true) : occAt s.data.toList sepL k = true := by
  rw [occ_sep s k h, beqInt, beqInt, beqInt, h0, h1]
  simpa using h2
theorem occ_no0 (s : ByteArray) (k : Nat) (h : k + 3 ≤ s.size) (h0 : ¬ ((s[k]'(by omega)).toNat : Int) = 58) : occAt s.data.toList sepL k = false := by
  rw [occ_sep s k h, beqInt, beqInt, beqInt]
  have : (((s[k]'(by omega)).toNat : Int) == (58 : UInt8).toNat) = false := beq_eq_false_iff_ne.2 h0
  rw [this]; rfl
theorem occ_no1 (s : ByteArray) (k : Nat) (h : k + 3 ≤ s.size) (h0 : ¬ ((s[k + 1]'(by omega)).toNat : Int) = 47) : occAt s.data.toList sepL k = false := by
  rw [occ_sep s k h, beqInt, beqInt, beqInt]
  have : (((s[k + 1]'(by omega)).toNat : Int) == (47 : UInt8).toNat) = false := beq_eq_false_iff_ne.2 h0
  rw [this]; simp
theorem occ_no2 (s : ByteArray) (k : Nat) (h : k + 3 ≤ s.size) (h0 : (((s[k + 2]'(by omega)).toNat : Int) == 47) = false) : occAt s.data.toList sepL k = false := by
  rw [occ_sep s k h, beqInt, beqInt, beqInt]
  have : (((s[k + 2]'(by omega)).toNat : Int) == (47 : UInt8).toNat) = false := h0
  rw [this]; simp
end Go.Proofs.Qxb6602029a
