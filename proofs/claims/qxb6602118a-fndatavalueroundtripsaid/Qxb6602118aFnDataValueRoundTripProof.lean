/-
  THE PROOF OF 'Rows.FnDataValueRoundTripSaid', in the shell that the seat gives.
-/
import Derived.Test.Qxb6602118aRows
import Derived.WalkKit
import Derived.ProofKit
import Derived.OpenShut
import Derived.ShutString
import Derived.ChangeOld
import Derived.Below
import Derived.Test.Qxb6602118aLaw2
import Derived.Test.Qxb6602118aLaw3
namespace Go.Proofs.Qxb6602118a.fnDataValueRoundTrip
open Go.ChangeShapes Go.WideShapes Go.ChangeAt Go.RowKit
open Go.ChangeMaps (open_string shut_string)
set_option linter.unusedVariables false

theorem own : ownKnob Try.prog.godebug = none := by kernel_rfl
theorem laidOut : laidOutB Try.prog = true := by kernel_rfl

/-- WHAT THE WALK IS TOLD OF A SLICE OF INTEGERS THAT CAME IN: it is nil; or it leads to a row of 'cap' cells, the numbers 'zs' (the first 'len' are its elements, the rest its spare room), each fitting its kind. -/
def IsRow (k : IntKind) (w : World) (a : Option Addr) (len cap : Nat) (zs : List Int) : Prop :=
  (a = none ∧ len = 0 ∧ cap = 0 ∧ zs = []) ∨
  ∃ x, a = some x ∧ len ≤ cap ∧ cap ≤ maxLen ∧ zs.length = cap ∧ (∀ i, i < zs.length → w.cell? (x.add i) = some (.int k (zs.getD i 0))) ∧ ∀ n ∈ zs, (Lit.int k n).wf = true

theorem walk (a0 : Option Addr) (len0 cap0 : Nat) (z0 : List Int) (a1 : Bool) (w : World) (w0 : IsRow .u8 w a0 len0 cap0 z0) :
    Calls Try.prog 3 #[.slice a0 len0 cap0, .bool a1] w fun e w' => e = .returned (.bool true) ∧ Below w.heap.size w w' := by
  by_cases hbig : 1048576 < len0
  · exact law_big a0 len0 cap0 a1 w hbig
  rcases w0 with ⟨rfl, rfl, rfl, _⟩ | ⟨x, rfl, hlc, _, hz, hcell, hwf⟩
  · cases a1
    · exact law_nil_plain w
    · exact law_nil_space w
  by_cases h0 : len0 = 0
  · subst h0
    cases a1
    · exact law_zero_plain x cap0 w
    · exact law_zero_space x cap0 w
  obtain ⟨b, o, rfl, hc⟩ := ints_at hcell (by omega)
  have hb : b < w.heap.size := by
    have h1 := hc 0 (by omega)
    unfold World.cell? at h1
    cases hh : w.heap[b]? with
    | none => simp [hh] at h1
    | some ob => exact (Array.getElem?_eq_some_iff.1 hh).1
  have hx : (z0.take len0).length = len0 := by rw [List.length_take]; omega
  have H : NS w b o (z0.take len0) := by
    intro i hi
    have hi' : i < len0 := by omega
    rw [hc i (by omega), List.getD, List.getD, List.getElem?_take_of_lt hi']
  cases a1
  · obtain ⟨z, r, hzr⟩ : ∃ z r, z0.take len0 = z :: r := by
      cases hh : z0.take len0 with
      | nil => rw [hh] at hx; simp at hx; omega
      | cons z r => exact ⟨z, r, rfl⟩
    have hzm : z ∈ z0 := List.mem_of_mem_take (i := len0) (by rw [hzr]; exact List.mem_cons_self)
    have hbd := bounds_u8 (hwf z hzm)
    have hc0 : w.cell? ⟨b, o, none⟩ = some (.int .u8 z) := by
      have := H 0 (by omega)
      rw [hzr] at this
      exact this
    by_cases hs : z = 32
    · subst hs
      exact law_skip b o len0 cap0 w (by omega) (by omega) hc0
    · refine law_plain b o len0 cap0 (z0.take len0) w hx H hb (by omega) (by omega) z (beq_eq_false_iff_ne.2 hs) hc0 ?_
      intro z' r' e
      rw [hzr] at e
      obtain ⟨rfl, _⟩ := List.cons.inj e
      exact ⟨hs, hbd.1, by omega⟩
  · exact law_space b o len0 cap0 (z0.take len0) w hx H hb (by omega) (by omega)

/-! ### THE ROW's STEP: WRITTEN OUT: LEAVE IT -/
set_option maxRecDepth 100000 in
theorem lifted (os : Os) (started : os.Started) (H : Type) (enc : TypeId × Value → H) :
    ReturnsInHanded {} Try.checked os 3 .any (Rows.fnDataValueRoundTripSpec.pre6 enc Try.prog Try.f3 Rows.fnDataValueRoundTripRow.domain false) (Rows.fnDataValueRoundTripSpec.post enc Try.prog Try.f3 false true false false) := by
  refine returnsInHanded_of_change (C := Try.checked) own started (by kernel_rfl) Try.func3
    (ChangeSpec.witness6 (enc := enc) (C := Try.checked) false ⟨#[], #[.slice none 0 0, .bool false], []⟩ 8 (by kernel_rfl) (by kernel_rfl) (by kernel_rfl) (by kernel_rfl)) ?_
  intro W base args ds gs before hval0 hW hcnd _
  have hval : ∀ (j : Nat) t v, Try.f3.params[j]? = some t → args[j]? = some v → Value.okWide Try.prog W .any base t v := hval0
  have hW' := hW
  obtain ⟨p, q, hA0, hV, rfl, hfz, hnd⟩ := hW
  have hA : DataW.TrodAll enc Try.prog W 0 (fun _ => true) true Try.f3.params.toList args.toList ds p := hA0
  rw [Try.params3] at hA hval
  obtain ⟨v0, vs0, d0, ds0, p0, q0, hargs, rfl, rfl, h0, r0⟩ := trodAll_cons hA
  obtain ⟨v1, vs1, d1, ds1, p1, q1, rfl, rfl, rfl, h1, r1⟩ := trodAll_cons r0
  obtain ⟨rfl, rfl, rfl⟩ := trodAll_nil r1
  obtain rfl : args = #[v0, v1] := by cases args; simp_all
  obtain ⟨rfl, rfl⟩ := trodVars_none hV
  obtain ⟨a0, len0, cap0, rfl⟩ := okWide_slice Try.underlying22 (hval 0 22 v0 rfl rfl)
  have k0 := h0
  have lt0 : ∀ x ∈ p0, x.block < W.heap.size := by obtain ⟨m, hm⟩ := k0; exact DataW.trod_lt m _ _ _ hm
  obtain ⟨z0, w0⟩ : ∃ zs, IsRow .u8 W a0 len0 cap0 zs := by
    obtain ⟨fuel, hf⟩ := h0
    rcases open_ints Try.underlying22 Try.underlying5 (by kernel_rfl) hf with ⟨hcs, _⟩ | ⟨x, l, c, zs, hcs, _, hl, hm, hz, _, hcell, hwz⟩
    · simp [Value.cells] at hcs
      obtain ⟨rfl, rfl, rfl⟩ := hcs
      exact ⟨[], .inl ⟨rfl, rfl, rfl, rfl⟩⟩
    · simp [Value.cells] at hcs
      obtain ⟨rfl, rfl, rfl⟩ := hcs
      exact ⟨zs, .inr ⟨_, rfl, hl, hm, by simpa using hz, hcell, hwz⟩⟩
  obtain ⟨a1, rfl, rfl, rfl⟩ := open_bool Try.underlying4 (hval 1 4 v1 rfl rfl) h1
  clear hA0 hval0
  refine (walk a0 len0 cap0 z0 a1 W w0).mono fun e W' ⟨he, bel⟩ => ?_
  subst he
  exact ⟨_, rfl, _, _, _, [], _, [], hW', trodAll_mk1 (shut_bool Try.underlying4 _), (trodAll_cons_mk (Below.trod laidOut (by kernel_rfl) (of_decide_eq_true (by kernel_rfl)) k0 bel lt0) (trodAll_cons_mk (shut_bool Try.underlying4 _) trodAll_mk0)), rfl, bel.frame _, fun h => by cases h⟩

theorem over : Rows.fnDataValueRoundTripRow.holds Try.pinned (OpenSpec.ofChange Rows.fnDataValueRoundTripSpec) :=
  OpenClaim.holds_of_wide 3 Try.f3 rfl rfl rfl rfl rfl rfl rfl ⟨rfl, rfl, rfl, rfl, rfl⟩ rfl rfl rfl rfl rfl (by kernel_rfl) Try.func3 (by kernel_rfl)
    (of_decide_eq_true (by kernel_rfl)) (by unfold Func.isWrapper; first | (rw [if_pos (by decide +kernel)]; kernel_rfl) | (rw [if_neg (by decide +kernel)]; exact ⟨rfl, rfl⟩))
    (fun os started H enc _ => lifted os started H enc)

/-- ████ THE STATEMENT ████ -/
theorem proved : Rows.FnDataValueRoundTripSaid := over
#print axioms proved
end Go.Proofs.Qxb6602118a.fnDataValueRoundTrip
