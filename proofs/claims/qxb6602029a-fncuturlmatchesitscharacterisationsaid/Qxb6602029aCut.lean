/-
  cutURL and ZZCutURL (seat b6602029a).
-/
import Derived.Test.Qxb6602029aAny
import Derived.Test.Qxb6602029aPlain2
import Derived.Test.Qxb6602029aWalkC
import Derived.RegionTactic
namespace Go.Proofs.Qxb6602029a
open Go.RowKit Go.Lib

theorem ba_ext {a b : ByteArray} (h : a.data.toList = b.data.toList) : a = b := by
  cases a with | mk a => cases b with | mk b => simp at h; rw [h]

/-- strings.Cut at the separator, found. -/
theorem cut_hit (raw sc af : ByteArray) (m : Int) (w : World) (hs : raw.size ≤ 2097152) (hm : w.cell? ⟨0, 0, none⟩ = some (.int .i64 m))
    (hraw : raw.data.toList = sc.data.toList ++ (sepL ++ af.data.toList)) (hsc : index sc.data.toList sepL < 0) :
    Calls Try.prog 14 #[.string raw, .string ⟨#[58, 47, 47]⟩] w fun e w' => e = .returned (.tuple #[.string sc, .string af, .bool true]) ∧ ∃ n, w' = w.drewN n := by
  have hix : index raw.data.toList sepL = sc.data.toList.length := by rw [hraw]; exact index_join _ _ hsc
  have hc : cut raw.data.toList sepL = (sc.data.toList, af.data.toList, true) := by
    unfold cut
    rw [hix, if_pos (by omega)]
    rw [hraw]
    simp only [Int.toNat_natCast, List.take_left']
    rw [show sc.data.toList.length + sepL.length = (sc.data.toList ++ sepL).length by simp, ← List.append_assoc, List.drop_left]
  refine (Try.strings_Cut raw ⟨#[58, 47, 47]⟩ m w (by omega) hm).mono fun e w' ⟨he, hw⟩ => ⟨?_, hw⟩
  rw [he]
  show Ending.returned (.tuple #[.string ⟨(cut raw.data.toList sepL).1.toArray⟩, .string ⟨(cut raw.data.toList sepL).2.1.toArray⟩, .bool (cut raw.data.toList sepL).2.2]) = _
  rw [hc]

/-- strings.Cut at the separator, not found. -/
theorem cut_miss (raw : ByteArray) (m : Int) (w : World) (hs : raw.size ≤ 2097152) (hm : w.cell? ⟨0, 0, none⟩ = some (.int .i64 m)) (hix : index raw.data.toList sepL < 0) :
    Calls Try.prog 14 #[.string raw, .string ⟨#[58, 47, 47]⟩] w fun e w' => e = .returned (.tuple #[.string raw, .string ⟨#[]⟩, .bool false]) ∧ ∃ n, w' = w.drewN n := by
  have hc : cut raw.data.toList sepL = (raw.data.toList, [], false) := by
    unfold cut
    rw [if_neg (by omega)]
  refine (Try.strings_Cut raw ⟨#[58, 47, 47]⟩ m w (by omega) hm).mono fun e w' ⟨he, hw⟩ => ⟨?_, hw⟩
  rw [he]
  show Ending.returned (.tuple #[.string ⟨(cut raw.data.toList sepL).1.toArray⟩, .string ⟨(cut raw.data.toList sepL).2.1.toArray⟩, .bool (cut raw.data.toList sepL).2.2]) = _
  rw [hc]

theorem chars_ascii : ∀ (j : Nat) (b : UInt8), ([47, 63, 35] : List UInt8)[j]? = some b → b.toNat < 128 := by
  intro j b h
  match j, h with
  | 0, h => simp at h; subst h; decide
  | 1, h => simp at h; subst h; decide
  | 2, h => simp at h; subst h; decide
  | n + 3, h => simp at h

/-- strings.IndexAny at "/?#". -/
theorem any_ps (af : ByteArray) (w : World) (hs : af.size ≤ 2097152) (i : Int) (h : indexAny af.data.toList [47, 63, 35] = i) :
    Calls Try.prog 15 #[.string af, .string ⟨#[47, 63, 35]⟩] w fun e w' => e = .returned (.int .i64 i) ∧ Below w.heap.size w w' := by
  refine (indexAny_all af ⟨#[47, 63, 35]⟩ w (by decide) (by decide) hs chars_ascii).mono fun e w' ⟨he, hw⟩ => ⟨?_, hw⟩
  rw [he, ← h]

theorem drewN_below (B : Nat) (w : World) (n : Nat) : Below B w (w.drewN n) := ⟨rfl, rfl, rfl, Nat.le_refl _, fun _ _ => rfl⟩

/-- The struct result's own block as it was laid. -/
structure Held (w w1 : World) : Prop where
  below : Below w.heap.size w w1
  size : w.heap.size < w1.heap.size
  blk : w1.heap[w.heap.size]? = some (.cells #[.string ⟨#[]⟩, .string ⟨#[]⟩, .string ⟨#[]⟩, .string ⟨#[]⟩] 28)

theorem Held.first {w w1 : World} (h : Below (w.heap.size + 1) (w.alloc (.cells #[.string ⟨#[]⟩, .string ⟨#[]⟩, .string ⟨#[]⟩, .string ⟨#[]⟩] 28)) w1) : Held w w1 where
  below := ((Below.refl _ _).alloc (Nat.le_refl _) _).trans (h.mono (by omega))
  size := by have := h.size; simp at this; omega
  blk := by rw [h.block _ (by omega)]; exact heap_alloc_last w _
theorem Held.next {w w1 w2 : World} (h : Held w w1) (hb : Below w1.heap.size w1 w2) : Held w w2 where
  below := h.below.trans (hb.mono (Nat.le_of_lt h.size))
  size := Nat.lt_of_lt_of_le h.size hb.size
  blk := (hb.block _ h.size).trans h.blk
theorem Held.cell0 {w w1 : World} (h : Held w w1) : w1.cell? ⟨w.heap.size, 0, none⟩ = some (.string ⟨#[]⟩) := by simp [World.cell?, h.blk]
theorem Held.cell1 {w w1 : World} (h : Held w w1) : w1.cell? ⟨w.heap.size, 1, none⟩ = some (.string ⟨#[]⟩) := by simp [World.cell?, h.blk]
theorem Held.cell2 {w w1 : World} (h : Held w w1) : w1.cell? ⟨w.heap.size, 2, none⟩ = some (.string ⟨#[]⟩) := by simp [World.cell?, h.blk]
theorem Held.cell3 {w w1 : World} (h : Held w w1) : w1.cell? ⟨w.heap.size, 3, none⟩ = some (.string ⟨#[]⟩) := by simp [World.cell?, h.blk]
theorem Held.froz {w w1 : World} (h : Held w w1) (i : Nat) : w1.frozen? ⟨w.heap.size, i, none⟩ = false := by simp [World.frozen?, h.blk]

set_option maxRecDepth 1000000 in
set_option maxHeartbeats 1000000 in
theorem cutURL_miss (raw : ByteArray) (m : Int) (w : World) (hs : raw.size ≤ 2097152) (hm : w.cell? ⟨0, 0, none⟩ = some (.int .i64 m)) (hix : index raw.data.toList sepL < 0) :
    Calls Try.prog 10 #[.string raw] w fun e w' => e = .returned (.tuple #[.agg #[.string ⟨#[]⟩, .string ⟨#[]⟩, .string ⟨#[]⟩, .string ⟨#[]⟩], .bool false]) ∧ Below w.heap.size w w' := by
  go_enter Try.func10, Try.ntmps10
  go_wp2_with (go_at_call 14; refine (cut_miss raw m _ hs ?_ hix).mono ?_; exact cell_later ((Below.refl _ _).alloc (Nat.le_refl _) _) hm; rintro e w1 ⟨rfl, n, hw1⟩; have H1 : Held w w1 := Held.first (by rw [hw1]; exact drewN_below _ _ _); clear hw1; have hc0 := H1.cell0; have hc1 := H1.cell1; have hc2 := H1.cell2; have hc3 := H1.cell3; have hf := H1.froz)
  refine bodyPost_ret (v := .tuple #[.agg #[.string ⟨#[]⟩, .string ⟨#[]⟩, .string ⟨#[]⟩, .string ⟨#[]⟩], .bool false]) (by simp [results, Try.results10, go_sem, hc0, hc1, hc2, hc3]) rfl ⟨rfl, ?_⟩
  exact (((H1.below.setCell (Nat.le_refl _) _).setCell (Nat.le_refl _) _).setCell (Nat.le_refl _) _).setCell (Nat.le_refl _) _

set_option maxRecDepth 1000000 in
set_option maxHeartbeats 1000000 in
theorem cutURL_hitA (raw sc af pre us ho re : ByteArray) (U N : Int) (m : Int) (w : World) (hs : raw.size ≤ 2097152) (hm : w.cell? ⟨0, 0, none⟩ = some (.int .i64 m))
    (hraw : Hid (raw.data.toList = sc.data.toList ++ (sepL ++ af.data.toList))) (hsc : Hid (index sc.data.toList sepL < 0)) (haf : af.size ≤ 2097152) (hpre : pre.size < 4611686018427387904)
    (hN : (af.size : Int) = N) (hU0 : 0 ≤ U) (hU1 : U ≤ 2097152)
    (hix : Hid (indexAny af.data.toList [47, 63, 35] = -1)) (hlast : Hid (lastIndexByte pre 64 = U - 1))
    (s1 : ∀ w, (Instr.slice 9 (.string af) none (some (.int .i64 N)) none).run Try.prog w = .ok (.string pre) w)
    (s2 : ∀ w, (Instr.slice 9 (.string af) none (some (.int .i64 U)) none).run Try.prog w = .ok (.string us) w)
    (s3 : ∀ w, (Instr.slice 9 (.string af) (some (.int .i64 U)) (some (.int .i64 N)) none).run Try.prog w = .ok (.string ho) w)
    (s4 : ∀ w, (Instr.slice 9 (.string af) (some (.int .i64 N)) none none).run Try.prog w = .ok (.string re) w) :
    Calls Try.prog 10 #[.string raw] w fun e w' => e = .returned (.tuple #[.agg #[.string sc, .string us, .string ho, .string re], .bool true]) ∧ Below w.heap.size w w' := by
  go_enter Try.func10, Try.ntmps10
  go_wp2_with (first
    | (go_at_call 14; refine (cut_hit raw sc af m _ hs ?_ hraw.out hsc.out).mono ?_; exact cell_later ((Below.refl _ _).alloc (Nat.le_refl _) _) hm; rintro e w1 ⟨rfl, n, hw1⟩; have H1 : Hid (Held w w1) := Held.first (by rw [hw1]; exact drewN_below _ _ _); clear hw1)
    | (go_at_call 15; refine (any_ps af _ haf _ hix.out).mono ?_; rintro e w2 ⟨rfl, hb⟩; have H2 := H1.out.next hb; clear hb H1; have hc0 := H2.cell0; have hc1 := H2.cell1; have hc2 := H2.cell2; have hc3 := H2.cell3; have hf := H2.froz; have hz := H2.size)
    | (go_at_call 16; refine (Try.strings_LastIndexByte pre 64 hpre _).mono ?_; rintro e w' ⟨rfl, rfl⟩; rw [hlast.out]))
  clear hix hlast hraw hsc haf hpre hm hs hU0 hU1 s1
  go_region
  go_wp2
  refine bodyPost_ret (v := .tuple #[.agg #[.string sc, .string us, .string ho, .string re], .bool true]) (by simp [results, Try.results10, go_sem, hc0, hc1, hc2, hc3]) rfl ⟨rfl, ?_⟩
  exact ((((H2.below.setCell (Nat.le_refl _) _).setCell (Nat.le_refl _) _).setCell (Nat.le_refl _) _).setCell (Nat.le_refl _) _).drew
set_option maxRecDepth 1000000 in
set_option maxHeartbeats 1000000 in
theorem cutURL_hitB (raw sc af pre us ho re : ByteArray) (U N : Int) (m : Int) (w : World) (hs : raw.size ≤ 2097152) (hm : w.cell? ⟨0, 0, none⟩ = some (.int .i64 m))
    (hraw : Hid (raw.data.toList = sc.data.toList ++ (sepL ++ af.data.toList))) (hsc : Hid (index sc.data.toList sepL < 0)) (haf : af.size ≤ 2097152) (hpre : pre.size < 4611686018427387904)
    (hN : 0 ≤ N) (hU0 : 0 ≤ U) (hU1 : U ≤ 2097152)
    (hix : Hid (indexAny af.data.toList [47, 63, 35] = N)) (hlast : Hid (lastIndexByte pre 64 = U - 1))
    (s1 : ∀ w, (Instr.slice 9 (.string af) none (some (.int .i64 N)) none).run Try.prog w = .ok (.string pre) w)
    (s2 : ∀ w, (Instr.slice 9 (.string af) none (some (.int .i64 U)) none).run Try.prog w = .ok (.string us) w)
    (s3 : ∀ w, (Instr.slice 9 (.string af) (some (.int .i64 U)) (some (.int .i64 N)) none).run Try.prog w = .ok (.string ho) w)
    (s4 : ∀ w, (Instr.slice 9 (.string af) (some (.int .i64 N)) none none).run Try.prog w = .ok (.string re) w) :
    Calls Try.prog 10 #[.string raw] w fun e w' => e = .returned (.tuple #[.agg #[.string sc, .string us, .string ho, .string re], .bool true]) ∧ Below w.heap.size w w' := by
  go_enter Try.func10, Try.ntmps10
  go_wp2_with (first
    | (go_at_call 14; refine (cut_hit raw sc af m _ hs ?_ hraw.out hsc.out).mono ?_; exact cell_later ((Below.refl _ _).alloc (Nat.le_refl _) _) hm; rintro e w1 ⟨rfl, n, hw1⟩; have H1 : Hid (Held w w1) := Held.first (by rw [hw1]; exact drewN_below _ _ _); clear hw1)
    | (go_at_call 15; refine (any_ps af _ haf _ hix.out).mono ?_; rintro e w2 ⟨rfl, hb⟩; have H2 := H1.out.next hb; clear hb H1; have hc0 := H2.cell0; have hc1 := H2.cell1; have hc2 := H2.cell2; have hc3 := H2.cell3; have hf := H2.froz; have hz := H2.size)
    | (go_at_call 16; refine (Try.strings_LastIndexByte pre 64 hpre _).mono ?_; rintro e w' ⟨rfl, rfl⟩; rw [hlast.out]))
  clear hix hlast hraw hsc haf hpre hm hs hU0 hU1 s1
  go_region
  go_wp2
  refine bodyPost_ret (v := .tuple #[.agg #[.string sc, .string us, .string ho, .string re], .bool true]) (by simp [results, Try.results10, go_sem, hc0, hc1, hc2, hc3]) rfl ⟨rfl, ?_⟩
  exact ((((H2.below.setCell (Nat.le_refl _) _).setCell (Nat.le_refl _) _).setCell (Nat.le_refl _) _).setCell (Nat.le_refl _) _).drew

theorem size_list (s : ByteArray) : s.size = s.data.toList.length := size_eq s
theorem cutl1 (a t : List UInt8) : ((a ++ t).drop 0).take (a.length - 0) = a := by simp
theorem cutl2 (a b t : List UInt8) : ((a ++ (b ++ t)).drop a.length).take (a.length + b.length - a.length) = b := by simp
theorem cutl3 (a t : List UInt8) : ((a ++ t).drop a.length).take (a.length + t.length - a.length) = t := by simp
theorem ba_extract (s : ByteArray) (a b : Nat) : (s.extract a b).data.toList = (s.data.toList.drop a).take (b - a) := extract_data s a b

/-- cutURL of a text that good pieces were joined to: it gives the very pieces back. -/
theorem cutURL_hit (raw sc us ho re : ByteArray) (m : Int) (w : World) (hs : raw.size ≤ 2097152) (hm : w.cell? ⟨0, 0, none⟩ = some (.int .i64 m))
    (hraw : raw.data.toList = sc.data.toList ++ (sepL ++ (us.data.toList ++ (ho.data.toList ++ re.data.toList)))) (hok : OkP sc us ho re) :
    Calls Try.prog 10 #[.string raw] w fun e w' => e = .returned (.tuple #[.agg #[.string sc, .string us, .string ho, .string re], .bool true]) ∧ Below w.heap.size w w' := by
  obtain ⟨af, haf⟩ : ∃ af : ByteArray, af.data.toList = us.data.toList ++ (ho.data.toList ++ re.data.toList) := ⟨⟨(us.data.toList ++ (ho.data.toList ++ re.data.toList)).toArray⟩, by simp⟩
  have hsz : af.size = us.size + (ho.size + re.size) := by simp only [size_list, haf, List.length_append]
  have hrs : raw.size = sc.size + (3 + af.size) := by simp only [size_list, hraw, haf, List.length_append]; rfl
  have hps : hasPS (us.data.toList ++ ho.data.toList) = false := by
    unfold hasPS
    rw [List.any_append, Bool.or_eq_false_iff]
    exact ⟨hok.ps1, hok.ps2⟩
  have hpre : (af.extract 0 (us.size + ho.size)).data.toList = us.data.toList ++ ho.data.toList := by
    rw [ba_extract, haf, ← List.append_assoc, size_list, size_list, ← List.length_append, cutl1]
  have hlast : lastIndexByte (af.extract 0 (us.size + ho.size)) 64 = (us.size : Int) - 1 := by
    rw [last_join _ _ _ hpre ?_ hok.at2, size_list us]
    by_cases hz : us.size = 0
    · exact Or.inl (List.length_eq_zero_iff.1 (by rw [← size_list]; exact hz))
    · refine Or.inr ?_
      have h64 := hok.at1 (by omega)
      rw [List.getLast?_eq_getElem?, ← size_list, Lib.data_getElem? us (us.size - 1) (by omega)]
      congr 1
      exact UInt8.toNat_inj.1 (by have : (64 : UInt8).toNat = 64 := rfl; omega)
  have s1 : ∀ w, (Instr.slice 9 (.string af) none (some (.int .i64 ((us.size + ho.size : Nat) : Int))) none).run Try.prog w = .ok (.string (af.extract 0 (us.size + ho.size))) w := fun w => by
    rw [run_slice_string_h (ht := Try.underlying9) (h0 := by omega) (h2 := by omega)]
    rfl
  have s2 : ∀ w, (Instr.slice 9 (.string af) none (some (.int .i64 (us.size : Int))) none).run Try.prog w = .ok (.string us) w := fun w => by
    rw [run_slice_string_h (ht := Try.underlying9) (h0 := by omega) (h2 := by omega)]
    have e : af.extract 0 us.size = us := ba_ext (by rw [ba_extract, haf, size_list us, cutl1])
    simp only [Int.toNat_natCast, e]
  have s3 : ∀ w, (Instr.slice 9 (.string af) (some (.int .i64 (us.size : Int))) (some (.int .i64 ((us.size + ho.size : Nat) : Int))) none).run Try.prog w = .ok (.string ho) w := fun w => by
    rw [run_slice_string (h := Try.underlying9) (h0 := by omega) (h1 := by omega) (h2 := by omega)]
    have e : af.extract us.size (us.size + ho.size) = ho := ba_ext (by rw [ba_extract, haf, size_list us, size_list ho, cutl2])
    simp only [Int.toNat_natCast, e]
  have s4 : ∀ w, (Instr.slice 9 (.string af) (some (.int .i64 ((us.size + ho.size : Nat) : Int))) none none).run Try.prog w = .ok (.string re) w := fun w => by
    rw [run_slice_string_l (ht := Try.underlying9) (h0 := by omega) (h1 := by omega)]
    have e : af.extract (us.size + ho.size) af.size = re := ba_ext (by rw [ba_extract, haf, ← List.append_assoc, hsz, ← Nat.add_assoc, size_list us, size_list ho, size_list re, ← List.length_append, cutl3])
    simp only [Int.toNat_natCast, e]
  have hraw' : raw.data.toList = sc.data.toList ++ (sepL ++ af.data.toList) := by rw [haf]; exact hraw
  have hpz : (af.extract 0 (us.size + ho.size)).size < 4611686018427387904 := by rw [ByteArray.size_extract]; omega
  cases hre : re.data.toList with
  | nil =>
    have hr0 : re.size = 0 := by rw [size_list, hre]; rfl
    refine cutURL_hitA raw sc af _ us ho re us.size ((us.size + ho.size : Nat) : Int) m w hs hm hraw' hok.sep (by omega) hpz (by omega) (by omega) (by omega) ?_ hlast s1 s2 s3 s4
    show _ = _
    rw [haf, hre, List.append_nil]
    exact indexAny_join_none _ hps
  | cons c t =>
    have hr0 : 0 < re.size := by rw [size_list, hre]; simp
    have hc : re[0]'hr0 = c := by
      have := Lib.data_getElem? re 0 hr0
      rw [hre] at this
      simpa using this.symm
    refine cutURL_hitB raw sc af _ us ho re us.size ((us.size + ho.size : Nat) : Int) m w hs hm hraw' hok.sep (by omega) hpz (by omega) (by omega) (by omega) ?_ hlast s1 s2 s3 s4
    show _ = _
    rw [haf, hre, ← List.append_assoc, indexAny_join_hit _ _ _ hps (by rw [← hc]; exact hok.hd hr0), List.length_append, ← size_list, ← size_list]
end Go.Proofs.Qxb6602029a
