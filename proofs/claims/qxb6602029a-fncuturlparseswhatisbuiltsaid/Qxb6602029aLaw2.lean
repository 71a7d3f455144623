/-
  The second law's walk (seat b6602029a): FnCutURLParsesWhatIsBuilt.
-/
import Derived.Test.Qxb6602029aZz
namespace Go.Proofs.Qxb6602029a
open Go.RowKit Go.Lib

set_option maxRecDepth 1000000 in
set_option maxHeartbeats 1000000 in
theorem law2_big (a b c d : ByteArray) (w : World) (h : 1048576 < a.size + b.size + c.size + d.size) :
    Calls Try.prog 4 #[.string a, .string b, .string c, .string d] w fun e w' => e = .returned (.bool true) ∧ Below w.heap.size w w' := by
  go_enter Try.func4, Try.ntmps4
  go_wp2_with (go_at_call 9; refine (guard2_no a b c d _ h).mono ?_; rintro e w' ⟨rfl, rfl⟩)
  go_ret
  exact ⟨rfl, Below.refl _ _⟩

set_option maxRecDepth 1000000 in
set_option maxHeartbeats 1000000 in
theorem law2_no (sc us ho re : ByteArray) (w : World) (h : sc.size + us.size + ho.size + re.size ≤ 1048576) (hok : ¬ OkP sc us ho re) :
    Calls Try.prog 4 #[.string sc, .string us, .string ho, .string re] w fun e w' => e = .returned (.bool true) ∧ Below w.heap.size w w' := by
  go_enter Try.func4, Try.ntmps4
  go_wp2_with (first
    | (go_at_call 9; refine (guard2_yes sc us ho re _ h).mono ?_; rintro e w' ⟨rfl, rfl⟩)
    | (go_at_call 8; refine (okPieces_any sc us ho re _ (by omega) (by omega) (by omega) (by omega)).mono ?_; rintro e w' ⟨b, rfl, hb, rfl⟩; obtain rfl : b = false := by cases b; rfl; exact absurd (hb.1 rfl) hok))
  go_ret
  exact ⟨rfl, Below.refl _ _⟩

set_option maxRecDepth 1000000 in
set_option maxHeartbeats 1000000 in
theorem law2_yes (raw sc us ho re : ByteArray) (m : Int) (w : World) (h : sc.size + us.size + ho.size + re.size ≤ 1048576) (hm : w.cell? ⟨0, 0, none⟩ = some (.int .i64 m)) (hok : OkP sc us ho re)
    (hraw : Hid (raw.data.toList = sc.data.toList ++ (sepL ++ (us.data.toList ++ (ho.data.toList ++ re.data.toList))))) (hs : raw.size ≤ 2097152)
    (hcat : sc ++ ⟨#[58, 47, 47]⟩ ++ us ++ ho ++ re = raw) :
    Calls Try.prog 4 #[.string sc, .string us, .string ho, .string re] w fun e w' => e = .returned (.bool true) ∧ Below w.heap.size w w' := by
  go_enter Try.func4, Try.ntmps4
  go_wp2_with (first
    | (go_at_call 9; refine (guard2_yes sc us ho re _ h).mono ?_; rintro e w' ⟨rfl, rfl⟩)
    | (go_at_call 8; refine (okPieces_any sc us ho re _ (by omega) (by omega) (by omega) (by omega)).mono ?_; rintro e w' ⟨b, rfl, hb, rfl⟩; obtain rfl : b = true := hb.2 hok; clear hb)
    | (go_at_call 6; refine (zz_hit raw sc us ho re m _ hs hm hraw.out hok).mono ?_; rintro e w1 ⟨rfl, hb⟩; have HB : Hid (Below _ _ w1) := hb; clear hb hok hcat hm))
  go_wp2
  go_ret
  exact ⟨rfl, HB.out⟩

/-- The second law's walk. -/
theorem law2 (sc us ho re : ByteArray) (m : Int) (w : World) (hm : w.cell? ⟨0, 0, none⟩ = some (.int .i64 m)) :
    Calls Try.prog 4 #[.string sc, .string us, .string ho, .string re] w fun e w' => e = .returned (.bool true) ∧ Below w.heap.size w w' := by
  by_cases h : sc.size + us.size + ho.size + re.size ≤ 1048576
  · by_cases hok : OkP sc us ho re
    · have hc : (sc ++ ⟨#[58, 47, 47]⟩ ++ us ++ ho ++ re).data.toList = sc.data.toList ++ (sepL ++ (us.data.toList ++ (ho.data.toList ++ re.data.toList))) := by
        rw [cat_data, cat_data, cat_data, cat_data]
        simp [sepL]
      refine law2_yes _ sc us ho re m w h hm hok hc ?_ rfl
      rw [size_list, hc]
      have e1 := size_list sc; have e2 := size_list us; have e3 := size_list ho; have e4 := size_list re
      rw [List.length_append, List.length_append, List.length_append, List.length_append, ← e1, ← e2, ← e3, ← e4]
      show sc.size + (3 + _) ≤ _
      omega
    · exact law2_no sc us ho re w h hok
  · exact law2_big sc us ho re w (by omega)
end Go.Proofs.Qxb6602029a
