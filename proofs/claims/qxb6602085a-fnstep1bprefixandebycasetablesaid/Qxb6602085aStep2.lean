/-
  WALK (seat b6602085a): step1b where the stem holds a vowel.
-/
import Derived.Test.Qxb6602085aStep
namespace Go.Proofs.Qxb6602085a
open Go.RowKit Go.Lib

theorem drewN_below (B : Nat) (w : World) (n : Nat) : Below B w (w.drewN n) := ⟨rfl, rfl, rfl, Nat.le_refl _, fun _ _ => rfl⟩
theorem BS.below {w w' : World} {b o n B : Nat} {l : List UInt8} (H : BS w b o n l) (h : Below B w w') (hb : b < B) : BS w' b o n l :=
  ⟨H.len, fun i hi => by rw [h.cell (p := ⟨b, o + i, none⟩) hb]; exact H.cell i hi⟩

/-- What step 1b hands back and leaves: r.1 bytes of l, an e behind them where r.2 says so; no block below b has turned. -/
def Post (b o c : Nat) (l : List UInt8) (w : World) (r : Nat × Bool) (e : Ending) (w' : World) : Prop :=
  e = .returned (.slice (some ⟨b, o, none⟩) (r.1 + r.2.toNat) c) ∧ Below b w w' ∧ BS w' b o (r.1 + r.2.toNat) (if r.2 then l.take r.1 ++ [101] else l)

theorem post_add {w w2 w' : World} {b o n c k : Nat} {l : List UInt8} {r : Nat × Bool} (H : BS w2 b o n l) (hk : k < n) (h2 : Below b w w2) (hr : r = (k, true))
    (h : Below (b + 1) (w2.setCell ⟨b, o + k, none⟩ (.int .u8 101)) w') : Post b o c l w r (.returned (.slice (some ⟨b, o, none⟩) (k + 1) c)) w' := by
  subst hr
  have hle := H.len
  have hset : Below b w2 (w2.setCell ⟨b, o + k, none⟩ (.int .u8 101)) := Below.setCell (p := ⟨b, o + k, none⟩) (Below.refl _ _) (Nat.le_refl b) _
  refine ⟨rfl, (h2.trans hset).trans (h.mono (by omega)), ?_, fun i hi => ?_⟩
  · show k + 1 ≤ (l.take k ++ [101]).length
    rw [List.length_append, List.length_take]
    show k + 1 ≤ _ + 1
    omega
  · show w'.cell? _ = some (.int .u8 ((l.take k ++ [101]).getD i 0).toNat)
    rw [h.cell (p := ⟨b, o + i, none⟩) (Nat.lt_succ_self b)]
    have hi' : i < k + 1 := hi
    by_cases e : i = k
    · subst e
      rw [World.cell?_setCell_same _ _ _ (H.cell i (by omega))]
      have : (l.take i ++ [101]).getD i 0 = 101 := by
        rw [List.getD, List.getElem?_append_right (by rw [List.length_take]; omega), List.length_take, Nat.min_eq_left (by omega)]
        simp
      rw [this]
      rfl
    · rw [World.cell?_setCell_other _ _ _ _ (by intro h; have h5 := congrArg Addr.off h; simp only at h5; omega), H.cell i (by omega)]
      have : (l.take k ++ [101]).getD i 0 = l.getD i 0 := by
        rw [List.getD, List.getElem?_append_left (by rw [List.length_take]; omega), List.getElem?_take_of_lt (by omega)]
        rfl
      rw [this]

theorem post_same {w w' : World} {b o n c k : Nat} {l : List UInt8} {r : Nat × Bool} (H : BS w b o n l) (hk : k ≤ n) (hb : b < w.heap.size) (hr : r = (k, false))
    (h : Below w.heap.size w w') : Post b o c l w r (.returned (.slice (some ⟨b, o, none⟩) k c)) w' := by
  subst hr
  exact ⟨rfl, h.mono (by omega), (H.less hk).below h hb⟩

theorem tailN_sfx {l : List UInt8} {k : Nat} (h : cuts l k sAT = true ∨ cuts l k sBL = true ∨ cuts l k sIZ = true) : tailN l k = (k, true) := by
  unfold tailN
  rw [if_pos]
  rcases h with h | h | h <;> simp [h]
theorem tailN_double {l : List UInt8} {j : Nat} (h : cuts l (j + 1) sAT = false ∧ cuts l (j + 1) sBL = false ∧ cuts l (j + 1) sIZ = false) (hd : endsDouble l (j + 1) = true) (hl : lastOK (l.getD j 0) = true) : tailN l (j + 1) = (j, false) := by
  unfold tailN
  rw [h.1, h.2.1, h.2.2, hd, show j + 1 - 1 = j from rfl, hl]
  rfl
theorem tailN_cvc {l : List UInt8} {j : Nat} (h : cuts l (j + 1) sAT = false ∧ cuts l (j + 1) sBL = false ∧ cuts l (j + 1) sIZ = false) (hd : endsDouble l (j + 1) = false ∨ lastOK (l.getD j 0) = false) (hm : ((measTo l (j + 1) : Int) == 1) = true) (hq : endsCVC l (j + 1) = true) : tailN l (j + 1) = (j + 1, true) := by
  have hm' : (measTo l (j + 1) == 1) = true := by simp at hm; simp; omega
  have hd' : (endsDouble l (j + 1) && lastOK (l.getD j 0)) = false := by
    rcases hd with hd | hd
    · rw [hd, Bool.false_and]
    · rw [hd, Bool.and_false]
  unfold tailN
  rw [h.1, h.2.1, h.2.2, show j + 1 - 1 = j from rfl, hd', hm', hq]
  rfl
theorem tailN_stem {l : List UInt8} {j : Nat} (h : cuts l (j + 1) sAT = false ∧ cuts l (j + 1) sBL = false ∧ cuts l (j + 1) sIZ = false) (hd : endsDouble l (j + 1) = false ∨ lastOK (l.getD j 0) = false) (hm : ((measTo l (j + 1) : Int) == 1) = false ∨ endsCVC l (j + 1) = false) : tailN l (j + 1) = (j + 1, false) := by
  have hm' : (measTo l (j + 1) == 1 && endsCVC l (j + 1)) = false := by
    rcases hm with hm | hm
    · have : (measTo l (j + 1) == 1) = false := by simp at hm; simp; omega
      simp [this]
    · simp [hm]
  have hd' : (endsDouble l (j + 1) && lastOK (l.getD j 0)) = false := by
    rcases hd with hd | hd
    · rw [hd, Bool.false_and]
    · rw [hd, Bool.and_false]
  unfold tailN
  rw [h.1, h.2.1, h.2.2, show j + 1 - 1 = j from rfl, hd', hm']
  rfl
theorem lastOK_int (x : UInt8) : lastOK x = (!((x.toNat : Int) == 108) && !((x.toNat : Int) == 115) && !((x.toNat : Int) == 122)) := by
  show (!(x == 108) && !(x == 115) && !(x == 122)) = _
  rw [beqInt, beqInt, beqInt]
  rfl
theorem lastOK_yes {x : UInt8} {z : Int} (h : (x.toNat : Int) = z) (q1 : z ≠ 108) (q2 : z ≠ 115) (q3 : z ≠ 122) : lastOK x = true := by
  rw [lastOK_int, h]
  simp [q1, q2, q3]
theorem lastOK_no {x : UInt8} {z : Int} (h : (x.toNat : Int) = z) (q : z = 108 ∨ z = 115 ∨ z = 122) : lastOK x = false := by
  rw [lastOK_int, h]
  rcases q with rfl | rfl | rfl <;> rfl

set_option maxRecDepth 1000000 in
set_option maxHeartbeats 4000000 in
theorem main_ed (b o j c : Nat) (l : List UInt8) (w : World) (H : Hid (BS w b o (j + 3) l)) (hb : b < w.heap.size) (hnc : j + 3 ≤ c) (hcm : c ≤ maxLen) (h1 : Hid (cuts l (j + 3) sEED = false)) (h2 : Hid (cuts l (j + 3) sED = true)) (hv : hvTo l (j + 1) = true)
    (hfz : w.frozen? ⟨b, o + (j + 1), none⟩ = false) :
    Calls Try.prog 27 #[.slice (some ⟨b, o, none⟩) (j + 3) c] w fun e w' => Post b o c l w (tailN l (j + 1)) e w' := by
  have hcm' := hcm
  unfold maxLen at hcm'
  have Hk : Hid (BS w b o (j + 1) l) := H.out.less (by omega)
  have hw1 : Hid (BS (w.alloc (.cells #[.string ⟨#[97, 116]⟩, .string ⟨#[98, 108]⟩, .string ⟨#[105, 122]⟩] 9)) b o (j + 1) l) := Hk.out.below ((Below.refl _ w).alloc (Nat.le_refl _) _) hb
  have hck := H.out.cell (j + 1) (by omega)
  have hcj := H.out.cell j (by omega)
  have hkc : j + 1 + 1 ≤ c := by omega
  obtain ⟨z, hz⟩ : ∃ z : Int, ((l.getD j 0).toNat : Int) = z := ⟨_, rfl⟩
  rw [hz] at hcj
  have HZ : Hid (((l.getD j 0).toNat : Int) = z) := hz
  clear hz
  go_enter Try.func27, Try.ntmps27
  go_wp2_with fail
  refine (cut_false b o (j + 3) c l _ w H.out hnc hcm (by decide) (by decide) h1.out).mono ?_
  rintro e w' ⟨rfl, hw⟩
  rw [hw]
  clear hw
  go_wp2_with fail
  refine (cut_true b o (j + 3) c l _ w H.out hnc hcm (by decide) (by decide) h2.out).mono ?_
  rintro e w' ⟨rfl, hw⟩
  rw [hw]
  clear hw
  go_wp2_with fail
  refine (hasVowel_any b o (j + 1) c l w Hk (by omega)).mono ?_
  rintro e w' ⟨rfl, hw⟩
  rw [hw, hv]
  clear hw
  go_wp2_with fail
  refine wp_loop_rounds 4 ?_
  rw [rounds_succ]
  go_wp2_with fail
  cases ha : cuts l (j + 1) sAT
  case true =>
    refine (cut_true b o (j + 1) c l _ _ hw1.out (by omega) hcm (by decide) (by decide) ha).mono ?_
    rintro e w' ⟨rfl, hw⟩
    rw [hw]
    clear hw
    go_wp2_with fail
    go_ret
    exact post_add H.out (by omega) (Below.refl _ _) (tailN_sfx (Or.inl ha)) (((Below.refl _ _).alloc (by simp; omega) _).alloc (by simp; omega) _)
  refine (cut_false b o (j + 1) c l _ _ hw1.out (by omega) hcm (by decide) (by decide) ha).mono ?_
  rintro e w' ⟨rfl, hw⟩
  rw [hw]
  clear hw
  go_wp2_with fail
  rw [rounds_succ]
  go_wp2_with fail
  cases hl : cuts l (j + 1) sBL
  case true =>
    refine (cut_true b o (j + 1) c l _ _ hw1.out (by omega) hcm (by decide) (by decide) hl).mono ?_
    rintro e w' ⟨rfl, hw⟩
    rw [hw]
    clear hw
    go_wp2_with fail
    go_ret
    exact post_add H.out (by omega) (Below.refl _ _) (tailN_sfx (Or.inr (Or.inl hl))) (((Below.refl _ _).alloc (by simp; omega) _).alloc (by simp; omega) _)
  refine (cut_false b o (j + 1) c l _ _ hw1.out (by omega) hcm (by decide) (by decide) hl).mono ?_
  rintro e w' ⟨rfl, hw⟩
  rw [hw]
  clear hw
  go_wp2_with fail
  rw [rounds_succ]
  go_wp2_with fail
  cases hi : cuts l (j + 1) sIZ
  case true =>
    refine (cut_true b o (j + 1) c l _ _ hw1.out (by omega) hcm (by decide) (by decide) hi).mono ?_
    rintro e w' ⟨rfl, hw⟩
    rw [hw]
    clear hw
    go_wp2_with fail
    go_ret
    exact post_add H.out (by omega) (Below.refl _ _) (tailN_sfx (Or.inr (Or.inr hi))) (((Below.refl _ _).alloc (by simp; omega) _).alloc (by simp; omega) _)
  refine (cut_false b o (j + 1) c l _ _ hw1.out (by omega) hcm (by decide) (by decide) hi).mono ?_
  rintro e w' ⟨rfl, hw⟩
  rw [hw]
  clear hw
  have HN : Hid (cuts l (j + 1) sAT = false ∧ cuts l (j + 1) sBL = false ∧ cuts l (j + 1) sIZ = false) := ⟨ha, hl, hi⟩
  clear ha hl hi
  go_wp2_with fail
  rw [rounds_succ]
  go_wp2_with fail
  refine (endsDouble_any b o (j + 1) c l _ hw1.out (by omega)).mono ?_
  rintro e w' ⟨rfl, m, hw⟩
  rw [hw]
  clear hw
  have hw2 : Hid (BS ((w.alloc (.cells #[.string ⟨#[97, 116]⟩, .string ⟨#[98, 108]⟩, .string ⟨#[105, 122]⟩] 9)).drewN m) b o (j + 1) l) := hw1.out.below (drewN_below (b + 1) _ _) (by omega)
  clear hw1
  cases hd : endsDouble l (j + 1)
  case' true =>
    by_cases hk : z ≠ 108 ∧ z ≠ 115 ∧ z ≠ 122
    case pos =>
      obtain ⟨q1, q2, q3⟩ := hk
      have r1 : (z != 108) = true := by simpa using q1
      have r2 : (z != 115) = true := by simpa using q2
      have r3 : (z != 122) = true := by simpa using q3
      go_wp2_with fail
      go_ret
      exact post_same H.out (by omega) hb (tailN_double HN.out hd (lastOK_yes HZ.out q1 q2 q3)) (((Below.refl _ _).alloc (Nat.le_refl _) _).trans (drewN_below _ _ _))
    have hk' : z = 108 ∨ z = 115 ∨ z = 122 := by omega
    clear hk
    have HL : Hid (lastOK (l.getD j 0) = false) := lastOK_no HZ.out hk'
    rcases hk' with rfl | rfl | rfl
  case' false => skip
  all_goals
    go_wp2_with fail
    refine (measure_any b o (j + 1) c l _ hw2 (by omega) (by omega)).mono ?_
    rintro e w' ⟨rfl, hw⟩
    rw [hw]
    clear hw
    cases hm : ((measTo l (j + 1) : Int) == 1)
    case' true =>
      go_wp2_with fail
      refine (endsCVC_any b o (j + 1) c l _ hw2.out (by omega)).mono ?_
      rintro e w' ⟨rfl, hw⟩
      rw [hw]
      clear hw
      cases hq : endsCVC l (j + 1)
      case' true =>
        go_wp2_with fail
        go_ret
        have hbw : Below w.heap.size w ((w.alloc (.cells #[.string ⟨#[97, 116]⟩, .string ⟨#[98, 108]⟩, .string ⟨#[105, 122]⟩] 9)).drewN m) := ((Below.refl _ _).alloc (Nat.le_refl _) _).trans (drewN_below _ _ _)
        first
          | exact post_add (H.out.below hbw hb) (by omega) (hbw.mono (by omega)) (tailN_cvc HN.out (Or.inl hd) hm hq) ((Below.refl _ _).alloc (by simp; omega) _)
          | exact post_add (H.out.below hbw hb) (by omega) (hbw.mono (by omega)) (tailN_cvc HN.out (Or.inr HL.out) hm hq) ((Below.refl _ _).alloc (by simp; omega) _)
    all_goals
      go_wp2_with fail
      go_ret
      first
        | exact post_same H.out (by omega) hb (tailN_stem HN.out (Or.inl hd) (Or.inl hm)) (((Below.refl _ _).alloc (Nat.le_refl _) _).trans (drewN_below _ _ _))
        | exact post_same H.out (by omega) hb (tailN_stem HN.out (Or.inr HL.out) (Or.inl hm)) (((Below.refl _ _).alloc (Nat.le_refl _) _).trans (drewN_below _ _ _))
        | exact post_same H.out (by omega) hb (tailN_stem HN.out (Or.inl hd) (Or.inr hq)) (((Below.refl _ _).alloc (Nat.le_refl _) _).trans (drewN_below _ _ _))
        | exact post_same H.out (by omega) hb (tailN_stem HN.out (Or.inr HL.out) (Or.inr hq)) (((Below.refl _ _).alloc (Nat.le_refl _) _).trans (drewN_below _ _ _))

end Go.Proofs.Qxb6602085a
