/-
  A slice of bytes that came in (seat b6602085a): nil, or a row of cells; and what it holds.
-/
import Derived.Test.Qxb6602085aWalkD
import Derived.OpenShut
namespace Go.Proofs.Qxb6602085a
open Go.RowKit Go.Lib

/-- WHAT THE WALK IS TOLD OF A SLICE OF INTEGERS THAT CAME IN (the shell's own words): it is nil; or it leads to a row of 'cap' cells, the numbers 'zs' (the first 'len' are its elements, the rest its spare room), each fitting its kind. -/
def IsRow (k : IntKind) (w : World) (a : Option Addr) (len cap : Nat) (zs : List Int) : Prop :=
  (a = none ∧ len = 0 ∧ cap = 0 ∧ zs = []) ∨
  ∃ x, a = some x ∧ len ≤ cap ∧ cap ≤ maxLen ∧ zs.length = cap ∧ (∀ i, i < zs.length → w.cell? (x.add i) = some (.int k (zs.getD i 0))) ∧ ∀ n ∈ zs, (Lit.int k n).wf = true

theorem arg_open {w : World} {a : Option Addr} {len cap : Nat} {zs : List Int} (h : IsRow .u8 w a len cap zs) :
    len = 0 ∨ ∃ b o l, a = some ⟨b, o, none⟩ ∧ b < w.heap.size ∧ 1 ≤ len ∧ BS w b o len l := by
  rcases h with ⟨_, h0, _⟩ | ⟨x, rfl, hlc, hcm, hz, hcell, hwf⟩
  · exact Or.inl h0
  by_cases hl : len = 0
  · exact Or.inl hl
  refine Or.inr ?_
  obtain ⟨b, o, rfl, hc⟩ := ints_at hcell (by omega)
  have hlt : b < w.heap.size := by
    have h0 := hc 0 (by omega)
    unfold World.cell? at h0
    cases hh : w.heap[b]? with
    | none => simp [hh] at h0
    | some ob => exact (Array.getElem?_eq_some_iff.1 hh).1
  refine ⟨b, o, zs.map (fun z => UInt8.ofNat z.toNat), rfl, hlt, by omega, by rw [List.length_map]; omega, fun i hi => ?_⟩
  have hiz : i < zs.length := by omega
  have hb := bounds_u8 (hwf zs[i] (List.getElem_mem hiz))
  rw [hc i hiz]
  have e1 : zs.getD i 0 = zs[i] := by rw [List.getD, List.getElem?_eq_getElem hiz]; rfl
  have e2 : (zs.map (fun z => UInt8.ofNat z.toNat)).getD i 0 = UInt8.ofNat zs[i].toNat := by
    rw [List.getD, List.getElem?_map, List.getElem?_eq_getElem hiz]
    rfl
  rw [e1, e2]
  have e3 : (UInt8.ofNat zs[i].toNat).toNat = zs[i].toNat := by rw [UInt8.toNat_ofNat']; omega
  rw [e3, Int.toNat_of_nonneg hb.1]
end Go.Proofs.Qxb6602085a
