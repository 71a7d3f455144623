/-
  The walk of FnDataValueRoundTrip (seat b6602118a).
-/
import Derived.Test.Qxb6602118aWalkB
import Derived.Deep.OwnRows
namespace Go.Proofs.Qxb6602118a
open Go.RowKit Go.Lib

theorem Try.info5 : (Try.prog.info? 5).map (fun i => (i.zero, i.size, i.bytes)) = some (some (.int .u8 0), 1, 1) := by kernel_rfl

/-- A row of which the first k cells hold the numbers xs, the rest 0. -/
def Part (w : World) (B n k : Nat) (xs : List Int) : Prop := w.rowIs B 5 n (fun i => if i < k then .int .u8 (xs.getD i 0) else .int .u8 0)
theorem Part.next {w : World} {B n k : Nat} {xs : List Int} {z : Int} (hz : xs.getD k 0 = z) (h : Part w B n k xs) : Part (w.setCell ⟨B, k, none⟩ (.int .u8 z)) B n (k + 1) xs := by
  subst hz
  refine (World.rowIs.set h k _).congr fun i _ => ?_
  by_cases e : i = k
  · subst e; simp
  · by_cases e2 : i < k
    · rw [if_neg e, if_pos e2, if_pos (by omega)]
    · rw [if_neg e, if_neg e2, if_neg (by omega)]
theorem Part.ns {w : World} {B n : Nat} {xs : List Int} (h : Part w B n n xs) (hx : xs.length = n) : NS w B 0 xs := by
  intro i hi
  have := World.rowIs.cell h (show i < n by omega)
  rw [Nat.zero_add, this, if_pos (by omega)]

theorem NS.grown {w w' : World} {row : Option Nat} {b o : Nat} {xs : List Int} (H : NS w b o xs) (hg : w.grownBy w' row) (hne : some b ≠ row) : NS w' b o xs :=
  fun i hi => hg.cell (H i hi) hne
theorem NS.alloc {w : World} {b o : Nat} {xs : List Int} (H : NS w b o xs) (hb : b < w.heap.size) (ob : Obj) : NS (w.alloc ob) b o xs :=
  H.below ((Below.refl w.heap.size w).alloc (Nat.le_refl _) ob) hb
/-- The cells of a slice of numbers, as the law of append asks for them. -/
theorem NS.cells {w : World} {b : Nat} {xs : List Int} (H : NS w b 0 xs) : ∀ j u, (xs.map (Value.int .u8))[j]? = some u → w.cell? ((⟨b, 0, none⟩ : Addr).add j) = some u := by
  intro j u hu
  have hj : j < xs.length := by have := (List.getElem?_eq_some_iff.1 hu).1; simpa using this
  rw [Addr.add_lit, H j hj]
  rw [List.getElem?_map, List.getElem?_eq_getElem hj] at hu
  rw [List.getD, List.getElem?_eq_getElem hj]
  exact hu
theorem NS.of_own {w : World} {base g n cap : Nat} {xs : List Int} (h : w.ownsRow base 5 1 (.slice (some ⟨g, 0, none⟩) n cap) n (xs.map (Value.int .u8))) (hn : xs.length = n) : NS w g 0 xs := by
  intro i hi
  have := h.cellAt i (by omega)
  rw [Nat.zero_add, this, List.getElem?_map, List.getElem?_eq_getElem hi, List.getD, List.getElem?_eq_getElem hi]
  rfl
theorem lit5 (w : World) : ∀ j u, (([100, 97, 116, 97, 58] : List Int).map (Value.int .u8))[j]? = some u → (w.alloc (.cells #[.int .u8 100, .int .u8 97, .int .u8 116, .int .u8 97, .int .u8 58] 5)).cell? ((⟨w.heap.size, 0, none⟩ : Addr).add j) = some u := by
  intro j u hu
  rw [Addr.add_lit, Nat.zero_add, World.cell?_alloc_new]
  simpa using hu
theorem lit1 (w : World) : ∀ j u, (([32] : List Int).map (Value.int .u8))[j]? = some u → (w.alloc (.cells #[.int .u8 32] 5)).cell? ((⟨w.heap.size, 0, none⟩ : Addr).add j) = some u := by
  intro j u hu
  rw [Addr.add_lit, Nat.zero_add, World.cell?_alloc_new]
  simpa using hu

theorem dv_at (G j e L C : Nat) (r : List Int) (w : World) (hL : L = j + 5) (hC : C = j + e + 5) (hn : r.length = j) (hj : j + e ≤ 1048577) (h1 : 1 ≤ j + e) (hG : G < w.heap.size) (H : NS w G 0 (100 :: 97 :: 116 :: 97 :: 58 :: r))
    (a : Addr) (n' c' : Nat) (ht : Lib.bytesTrimPrefix G 5 j (j + e) r [32] = .slice (some a) n' c') :
    Calls Try.prog 5 #[.slice (some ⟨G, 0, none⟩) L C] w fun en w' => en = .returned (.tuple #[.slice (some a) n' c', .bool true]) ∧ Below w.heap.size w w' := by
  subst hL
  subst hC
  exact dv_any G j e r w hn hj h1 hG H a n' c' ht

theorem trim_plain (G n : Nat) (ps : List Int) (h : ∀ z r, ps = z :: r → ¬ z = 32 ∧ 0 ≤ z ∧ z < 256) : Lib.bytesTrimPrefix G 5 n (n + 1) ps [32] = .slice (some ⟨G, 5, none⟩) n (n + 1) := by
  have hp : Lib.hasPrefix (Lib.bytesOf ps) (Lib.bytesOf [32]) = false := by
    cases ps with
    | nil => rfl
    | cons z r =>
      obtain ⟨h1, h2, h3⟩ := h z r rfl
      have e : ¬ (32 : UInt8) = UInt8.ofNat z.toNat := by
        intro he
        have := congrArg UInt8.toNat he
        rw [UInt8.toNat_ofNat'] at this
        have h32 : (32 : UInt8).toNat = 32 := rfl
        omega
      show ((32 : UInt8) == UInt8.ofNat z.toNat && true) = false
      simpa using e
  unfold Lib.bytesTrimPrefix
  rw [hp]
  rfl
theorem trim_space (G n : Nat) (ps : List Int) : Lib.bytesTrimPrefix G 5 (n + 1) (n + 1 + 0) (32 :: ps) [32] = .slice (some (if n = 0 then ⟨G, 5, none⟩ else ⟨G, 6, none⟩)) n n := by
  have hp : Lib.hasPrefix (Lib.bytesOf (32 :: ps)) (Lib.bytesOf [32]) = true := rfl
  unfold Lib.bytesTrimPrefix
  rw [hp, if_pos rfl]
  unfold Lib.sliceFrom
  by_cases h : n = 0
  · subst h; rfl
  · rw [if_neg h, if_neg (by simp; omega)]
    rfl

/-- The state behind the last append: what the two calls behind it need. -/
theorem chain {w wr w1 : World} {B G : Nat} (hG : G = wr.heap.size) (HB : Below w.heap.size w wr) (hB : B < wr.heap.size) {ps : List Int} (HP : NS wr B 0 ps) (g1 : wr.grownBy w1 none) :
    Below w.heap.size w w1 ∧ NS w1 B 0 ps ∧ B ≠ G ∧ B < w1.heap.size ∧ w.heap.size ≤ G :=
  ⟨HB.grown g1 HB.size (fun k h => by cases h), HP.grown g1 (by simp), by omega, by have := g1.size; omega, by rw [hG]; exact HB.size⟩
theorem chain_next {w w1 w2 : World} {B G : Nat} {ob : Obj} {ps : List Int} (h : Below w.heap.size w w1 ∧ NS w1 B 0 ps ∧ B ≠ G ∧ B < w1.heap.size ∧ w.heap.size ≤ G) (g : (w1.alloc ob).grownBy w2 (some G)) :
    Below w.heap.size w w2 ∧ NS w2 B 0 ps ∧ B ≠ G ∧ B < w2.heap.size ∧ w.heap.size ≤ G := by
  obtain ⟨h1, h2, h3, h4, h5⟩ := h
  have hs : (w1.alloc ob).heap.size = w1.heap.size + 1 := by simp
  refine ⟨(h1.alloc h1.size ob).grown g (by rw [hs]; have := h1.size; omega) (fun k hk => by cases hk; exact h5), (h2.alloc h4 ob).grown g (by simp; exact h3), h3, ?_, h5⟩
  have := g.size
  omega
theorem chain_last {w w1 w2 : World} {B G : Nat} {ps : List Int} (h : Below w.heap.size w w1 ∧ NS w1 B 0 ps ∧ B ≠ G ∧ B < w1.heap.size ∧ w.heap.size ≤ G) (g : w1.grownBy w2 (some G)) :
    Below w.heap.size w w2 ∧ NS w2 B 0 ps := by
  obtain ⟨h1, h2, h3, h4, h5⟩ := h
  exact ⟨h1.grown g h1.size (fun k hk => by cases hk; exact h5), h2.grown g (by simp; exact h3)⟩

theorem NS.tail1 {w : World} {b : Nat} {z : Int} {r : List Int} (H : NS w b 5 (z :: r)) : NS w b 6 r := by
  intro i hi
  have h := H (i + 1) (by simp; omega)
  rw [show 5 + (i + 1) = 6 + i by omega] at h
  exact h
theorem NS.none (w : World) (b : Nat) : NS w b 0 [] := fun i hi => absurd hi (Nat.not_lt_zero i)

theorem nil_first {w w1 : World} (g1 : w.grownBy w1 none) : Below w.heap.size w w1 := (Below.refl _ _).grown g1 (Nat.le_refl _) (fun k h => by cases h)
theorem nil_next {w w1 w2 : World} {ob : Obj} (h : Below w.heap.size w w1) (g : (w1.alloc ob).grownBy w2 (some w.heap.size)) : Below w.heap.size w w2 :=
  (h.alloc h.size ob).grown g (by have := h.size; simp; omega) (fun k hk => by cases hk; exact Nat.le_refl _)
theorem nil_last {w w1 w2 : World} (h : Below w.heap.size w w1) (g : w1.grownBy w2 (some w.heap.size)) : Below w.heap.size w w2 :=
  h.grown g h.size (fun k hk => by cases hk; exact Nat.le_refl _)
end Go.Proofs.Qxb6602118a
