/-
  WALK (seat b6602029a): okPieces.
-/
import Derived.Test.Qxb6602029aWalkB
namespace Go.Proofs.Qxb6602029a
open Go.RowKit Go.Lib

/-- The four pieces have the shape that the law asks. -/
structure OkP (sc us ho re : ByteArray) : Prop where
  sep : index sc.data.toList sepL < 0
  at1 : ∀ h : 0 < us.size, ((us[us.size - 1]'(by omega)).toNat : Int) = 64
  ps1 : hasPS us.data.toList = false
  at2 : hasAtB ho.data.toList = false
  ps2 : hasPS ho.data.toList = false
  hd : ∀ h : 0 < re.size, isPS (re[0]'h) = true

theorem at_end {x : Int} (h : (x != 64) = false) : x = 64 := by simpa using h
theorem no_at_end {x : Int} (h : (x != 64) = true) (e : x = 64) : False := by subst e; simp at h
theorem hd_ps {b : Bool} (h : (!b) = false) : b = true := by simpa using h
theorem no_hd {b : Bool} (h : (!b) = true) (e : b = true) : False := by subst e; simp at h
theorem not_true {b : Bool} (h : ¬ b = true) : b = false := by simpa using h

set_option maxHeartbeats 1000000 in
theorem okPieces_any (sc us ho re : ByteArray) (w : World) (h1 : sc.size ≤ 2097152) (h2 : us.size ≤ 2097152) (h3 : ho.size ≤ 2097152) (_h4 : re.size ≤ 2097152) :
    Calls Try.prog 8 #[.string sc, .string us, .string ho, .string re] w fun e w' => ∃ b : Bool, e = .returned (.bool b) ∧ (b = true ↔ OkP sc us ho re) ∧ w' = w := by
  have m2 : us.size ≤ maxLen := by unfold maxLen; omega
  have m3 : ho.size ≤ maxLen := by unfold maxLen; omega
  go_enter Try.func8, Try.ntmps8
  go_wp2_with (first
    | (go_at_call 7; refine (sepAt_any _ _ h1).mono ?_; rintro e w' ⟨rfl, rfl⟩)
    | (go_at_call 11; refine (hasPathStart_any _ _ (by assumption)).mono ?_; rintro e w' ⟨rfl, rfl⟩)
    | (go_at_call 12; refine (hasAt_any _ _ m3).mono ?_; rintro e w' ⟨rfl, rfl⟩)
    | (go_at_call 13; refine (isPathStart_any _ _).mono ?_; rintro e w' ⟨rfl, rfl⟩))
  all_goals (go_ret; refine ⟨_, rfl, ?_, rfl⟩)
  all_goals first
    | exact iff_of_true rfl (OkP.mk (by assumption) (fun _ => at_end (by assumption)) (by assumption) (not_true (by assumption)) (by assumption) (fun _ => hd_ps (by assumption)))
    | exact iff_of_true rfl (OkP.mk (by assumption) (fun _ => at_end (by assumption)) (by assumption) (not_true (by assumption)) (by assumption) (fun h => absurd h (by assumption)))
    | exact iff_of_true rfl (OkP.mk (by assumption) (fun h => absurd h (by assumption)) (by assumption) (not_true (by assumption)) (by assumption) (fun _ => hd_ps (by assumption)))
    | exact iff_of_true rfl (OkP.mk (by assumption) (fun h => absurd h (by assumption)) (by assumption) (not_true (by assumption)) (by assumption) (fun h => absurd h (by assumption)))
    | exact iff_of_false Bool.false_ne_true (fun h => absurd h.sep (by omega))
    | exact iff_of_false Bool.false_ne_true (fun h => no_at_end (by assumption) (h.at1 (by assumption)))
    | exact iff_of_false Bool.false_ne_true (fun h => Bool.false_ne_true (h.ps1.symm.trans ‹hasPS us.data.toList = true›))
    | exact iff_of_false Bool.false_ne_true (fun h => Bool.false_ne_true (h.at2.symm.trans ‹hasAtB ho.data.toList = true›))
    | exact iff_of_false Bool.false_ne_true (fun h => Bool.false_ne_true (h.ps2.symm.trans ‹hasPS ho.data.toList = true›))
    | exact iff_of_false Bool.false_ne_true (fun h => no_hd (by assumption) (h.hd _))

end Go.Proofs.Qxb6602029a
