/-
  WALKS (seat b6602118a): sse.DataValue at a line that begins with data and a colon.
-/
import Derived.Test.Qxb6602118aWalkA
import Derived.Lib.SlBytesConst
namespace Go.Proofs.Qxb6602118a
open Go.RowKit

theorem NS.below {w w' : World} {b o B : Nat} {xs : List Int} (H : NS w b o xs) (h : Below B w w') (hb : b < B) : NS w' b o xs :=
  fun i hi => by rw [h.cell (p := ⟨b, o + i, none⟩) hb]; exact H i hi
theorem NS.tail {w : World} {b : Nat} {a0 a1 a2 a3 a4 : Int} {r : List Int} (H : NS w b 0 (a0 :: a1 :: a2 :: a3 :: a4 :: r)) : NS w b 5 r := by
  intro i hi
  have h := H (i + 5) (by simp; omega)
  rw [show 0 + (i + 5) = 5 + i by omega] at h
  exact h
theorem NS.head {w : World} {b : Nat} {a0 a1 a2 a3 a4 : Int} {r : List Int} (H : NS w b 0 (a0 :: a1 :: a2 :: a3 :: a4 :: r)) : NS w b 0 [a0, a1, a2, a3] := by
  intro i hi
  have hi' : i < 4 := hi
  have h := H i (by simp; omega)
  rw [h]
  rcases i with _ | _ | _ | _ | i
  · rfl
  · rfl
  · rfl
  · rfl
  · omega
theorem drewN_below (B : Nat) (w : World) (n : Nat) : Below B w (w.drewN n) := ⟨rfl, rfl, rfl, Nat.le_refl _, fun _ _ => rfl⟩
theorem str_data : strOfNums [100, 97, 116, 97] = ⟨#[100, 97, 116, 97]⟩ := rfl
theorem ns_one {w : World} {z : Int} : NS (w.alloc (.cells #[.int .u8 z] 5 (1, 2))) w.heap.size 0 [z] := by
  intro i hi
  have hi' : i < 1 := hi
  obtain rfl : i = 0 := by omega
  exact World.cell?_alloc_mark w #[.int .u8 z] 5 (1, 2) 0

set_option maxRecDepth 1000000 in
set_option maxHeartbeats 1000000 in
theorem dv_any (G j e : Nat) (r : List Int) (w : World) (hn : r.length = j) (hj : j + e ≤ 1048577) (h1 : 1 ≤ j + e) (hG : G < w.heap.size) (H : Hid (NS w G 0 (100 :: 97 :: 116 :: 97 :: 58 :: r)))
    (a : Addr) (n' c' : Nat) (ht : Hid (Lib.bytesTrimPrefix G 5 j (j + e) r [32] = .slice (some a) n' c')) :
    Calls Try.prog 5 #[.slice (some ⟨G, 0, none⟩) (j + 5) (j + e + 5)] w fun en w' => en = .returned (.tuple #[.slice (some a) n' c', .bool true]) ∧ Below w.heap.size w w' := by
  have hc1 : Hid (NS (w.alloc (.cells #[.int .u8 58] 5 (1, 2))) w.heap.size 0 [58]) := ns_one
  have B1 : Hid (Below w.heap.size w (w.alloc (.cells #[.int .u8 58] 5 (1, 2)))) := (Below.refl _ _).alloc (Nat.le_refl _) _
  have kc := fun (w : World) (C : Array Value) (n c : Nat) => Lib.run_convert_bytes_const (P := Try.prog) w 22 5 C n c Try.underlying22 Try.underlying5
  go_enter Try.func5, Try.ntmps5
  go_wp2_with fail
  refine (cut_colon G w.heap.size 1 j e r _ hn hj h1 (H.out.below B1.out hG) (hc1.out 0 (by simp))).mono ?_
  rintro en w2 ⟨rfl, q, hw⟩
  have B2 : Hid (Below w.heap.size w w2) := by show Below _ _ _; rw [hw]; exact B1.out.trans (drewN_below _ _ _)
  have hs2 : Hid (w.heap.size ≤ w2.heap.size) := B2.out.size
  clear hw
  have H2 : Hid (NS w2 G 0 (100 :: 97 :: 116 :: 97 :: 58 :: r)) := H.out.below B2.out hG
  have hcv := run_convert_bytes_arg (P := Try.prog) w2 22 5 Try.underlying22 Try.underlying5 G 0 4 (j + e + 5) [100, 97, 116, 97] rfl (fun i hi => H2.out.head i hi) 9 Try.underlying9
  rw [str_data] at hcv
  have B3 : Hid (Below w.heap.size w (w2.alloc (.cells #[.int .u8 32] 5 (1, 2)))) := B2.out.alloc hs2.out _
  have hc3 : Hid (NS (w2.alloc (.cells #[.int .u8 32] 5 (1, 2))) w2.heap.size 0 [32]) := ns_one
  go_wp2_with fail
  refine (Try.bytes_CutPrefix G 5 j (j + e) w2.heap.size 0 1 1 r [32] (w2.alloc (.cells #[.int .u8 32] 5 (1, 2))) hn rfl (by omega) (fun i hi => (H.out.below B3.out hG).tail i (by omega)) (fun i hi => hc3.out i hi)).mono ?_
  rintro en w4 ⟨rfl, hw⟩
  rw [hw, ht.out]
  clear hw
  go_wp2_with fail
  go_ret2
  exact ⟨rfl, B3.out⟩
end Go.Proofs.Qxb6602118a
