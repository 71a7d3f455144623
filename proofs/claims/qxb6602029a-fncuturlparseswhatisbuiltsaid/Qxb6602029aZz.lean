/-
  ZZCutURL (seat b6602029a).
-/
import Derived.Test.Qxb6602029aCut
namespace Go.Proofs.Qxb6602029a
open Go.RowKit Go.Lib

set_option maxRecDepth 1000000 in
set_option maxHeartbeats 1000000 in
theorem zz_core (raw a b c d : ByteArray) (f : Bool) (w : World)
    (hcall : Calls Try.prog 10 #[.string raw] w fun e w' => e = .returned (.tuple #[.agg #[.string a, .string b, .string c, .string d], .bool f]) ∧ Below w.heap.size w w') :
    Calls Try.prog 6 #[.string raw] w fun e w' => e = .returned (.tuple #[.string a, .string b, .string c, .string d, .bool f]) ∧ Below w.heap.size w w' := by
  go_enter Try.func6, Try.ntmps6
  go_wp2_with (go_at_call 10; refine hcall.mono ?_; rintro e w1 ⟨rfl, hb⟩; have HB : Hid (Below w.heap.size w w1) := hb; clear hb)
  go_quiet (fail)
  go_wp2
  refine bodyPost_ret (v := .tuple #[.string a, .string b, .string c, .string d, .bool f]) (by simp [results, Try.results6, go_sem]) rfl ⟨rfl, ?_⟩
  exact (HB.out.alloc HB.out.size _).trans (drewN_below _ _ _)

theorem zz_miss (raw : ByteArray) (m : Int) (w : World) (hs : raw.size ≤ 2097152) (hm : w.cell? ⟨0, 0, none⟩ = some (.int .i64 m)) (hix : index raw.data.toList sepL < 0) :
    Calls Try.prog 6 #[.string raw] w fun e w' => e = .returned (.tuple #[.string ⟨#[]⟩, .string ⟨#[]⟩, .string ⟨#[]⟩, .string ⟨#[]⟩, .bool false]) ∧ Below w.heap.size w w' :=
  zz_core _ _ _ _ _ _ _ (cutURL_miss raw m w hs hm hix)
theorem zz_hit (raw sc us ho re : ByteArray) (m : Int) (w : World) (hs : raw.size ≤ 2097152) (hm : w.cell? ⟨0, 0, none⟩ = some (.int .i64 m))
    (hraw : raw.data.toList = sc.data.toList ++ (sepL ++ (us.data.toList ++ (ho.data.toList ++ re.data.toList)))) (hok : OkP sc us ho re) :
    Calls Try.prog 6 #[.string raw] w fun e w' => e = .returned (.tuple #[.string sc, .string us, .string ho, .string re, .bool true]) ∧ Below w.heap.size w w' :=
  zz_core _ _ _ _ _ _ _ (cutURL_hit raw sc us ho re m w hs hm hraw hok)

set_option maxRecDepth 1000000 in
set_option maxHeartbeats 1000000 in
theorem law1_big (raw : ByteArray) (w : World) (h : 1048576 < raw.size) :
    Calls Try.prog 3 #[.string raw] w fun e w' => e = .returned (.bool true) ∧ Below w.heap.size w w' := by
  go_enter Try.func3, Try.ntmps3
  go_wp2_with (go_at_call 5; refine (guard1_no raw _ h).mono ?_; rintro e w' ⟨rfl, rfl⟩)
  go_ret
  exact ⟨rfl, Below.refl _ _⟩

set_option maxRecDepth 1000000 in
set_option maxHeartbeats 1000000 in
theorem law1_miss (raw : ByteArray) (m : Int) (w : World) (hs : raw.size ≤ 1048576) (hm : w.cell? ⟨0, 0, none⟩ = some (.int .i64 m)) (hix : index raw.data.toList sepL < 0) :
    Calls Try.prog 3 #[.string raw] w fun e w' => e = .returned (.bool true) ∧ Below w.heap.size w w' := by
  go_enter Try.func3, Try.ntmps3
  go_wp2_with (first
    | (go_at_call 5; refine (guard1_yes raw _ hs).mono ?_; rintro e w' ⟨rfl, rfl⟩)
    | (go_at_call 6; refine (zz_miss raw m _ (by omega) hm hix).mono ?_; rintro e w1 ⟨rfl, hb⟩; have HB : Hid (Below _ _ w1) := hb; clear hb)
    | (go_at_call 7; refine (sepAt_any raw _ (by omega)).mono ?_; rintro e w' ⟨rfl, rfl⟩))
  go_ret
  exact ⟨rfl, HB.out⟩

set_option maxRecDepth 1000000 in
set_option maxHeartbeats 1000000 in
theorem law1_hit (raw sc us ho re : ByteArray) (m : Int) (w : World) (hs : raw.size ≤ 1048576) (hm : w.cell? ⟨0, 0, none⟩ = some (.int .i64 m)) (hix : 0 ≤ index raw.data.toList sepL)
    (hraw : Hid (raw.data.toList = sc.data.toList ++ (sepL ++ (us.data.toList ++ (ho.data.toList ++ re.data.toList))))) (hok : OkP sc us ho re)
    (hsum : sc.size + 3 + us.size + ho.size + re.size ≤ 1048576) (hcat : sc ++ ⟨#[58, 47, 47]⟩ ++ us ++ ho ++ re = raw) :
    Calls Try.prog 3 #[.string raw] w fun e w' => e = .returned (.bool true) ∧ Below w.heap.size w w' := by
  go_enter Try.func3, Try.ntmps3
  go_wp2_with (first
    | (go_at_call 5; refine (guard1_yes raw _ hs).mono ?_; rintro e w' ⟨rfl, rfl⟩)
    | (go_at_call 6; refine (zz_hit raw sc us ho re m _ (by omega) hm hraw.out hok).mono ?_; rintro e w1 ⟨rfl, hb⟩; have HB : Hid (Below _ _ w1) := hb; clear hb)
    | (go_at_call 7; refine (sepAt_any raw _ (by omega)).mono ?_; rintro e w' ⟨rfl, rfl⟩)
    | (go_at_call 8; refine (okPieces_any sc us ho re _ (by omega) (by omega) (by omega) (by omega)).mono ?_; rintro e w' ⟨b, rfl, hb, rfl⟩; obtain rfl : b = true := hb.2 hok))
  go_ret
  exact ⟨rfl, HB.out⟩

theorem cat_data (a b : ByteArray) : (a ++ b).data.toList = a.data.toList ++ b.data.toList := by
  rw [ByteArray.data_append, Array.toList_append]

/-- The first law's walk. -/
theorem law1 (raw : ByteArray) (m : Int) (w : World) (hm : w.cell? ⟨0, 0, none⟩ = some (.int .i64 m)) :
    Calls Try.prog 3 #[.string raw] w fun e w' => e = .returned (.bool true) ∧ Below w.heap.size w w' := by
  by_cases hs : raw.size ≤ 1048576
  · by_cases hix : index raw.data.toList sepL < 0
    · exact law1_miss raw m w hs hm hix
    · obtain ⟨sc, us, ho, re, hl, h1, h2, h3, h4, h5, h6⟩ := split_exists raw.data.toList (by omega)
      have hok : OkP ⟨sc.toArray⟩ ⟨us.toArray⟩ ⟨ho.toArray⟩ ⟨re.toArray⟩ := by
        refine ⟨h1, fun h => ?_, h3, h4, h5, fun h => ?_⟩
        · have hz : us ≠ [] := by intro e; subst e; exact absurd h (by decide)
          have hg := h2.resolve_left hz
          rw [List.getLast?_eq_getElem?] at hg
          have := Lib.data_getElem? (⟨us.toArray⟩ : ByteArray) ((⟨us.toArray⟩ : ByteArray).size - 1) (by omega)
          have g2 : us[(⟨us.toArray⟩ : ByteArray).size - 1]? = some 64 := by rw [size_list]; exact hg
          exact congrArg (fun b : UInt8 => (b.toNat : Int)) (Option.some.inj (this.symm.trans g2))
        · cases re with
          | nil => exact absurd h (by decide)
          | cons c t => exact h6 c t rfl
      have hsz : raw.size = sc.length + (3 + (us.length + (ho.length + re.length))) := by
        rw [size_list, hl]
        simp [sepL]
        omega
      have e1 : (⟨sc.toArray⟩ : ByteArray).size = sc.length := by rw [size_list]
      have e2 : (⟨us.toArray⟩ : ByteArray).size = us.length := by rw [size_list]
      have e3 : (⟨ho.toArray⟩ : ByteArray).size = ho.length := by rw [size_list]
      have e4 : (⟨re.toArray⟩ : ByteArray).size = re.length := by rw [size_list]
      refine law1_hit raw ⟨sc.toArray⟩ ⟨us.toArray⟩ ⟨ho.toArray⟩ ⟨re.toArray⟩ m w hs hm (by omega) hl hok (by rw [e1, e2, e3, e4]; omega) ?_
      apply ba_ext
      rw [cat_data, cat_data, cat_data, cat_data, hl]
      simp [sepL]
  · exact law1_big raw w (by omega)
end Go.Proofs.Qxb6602029a
