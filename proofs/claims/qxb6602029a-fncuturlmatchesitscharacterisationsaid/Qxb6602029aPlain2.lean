/-
  THE PLAIN LAYER of seat b6602029a, second text: pieces and their join.
-/
import Derived.Test.Qxb6602029aPlain
namespace Go.Proofs.Qxb6602029a
open Go.Lib

theorem occ_get (l : List UInt8) (j : Nat) : occAt l sepL j = true ↔ l[j]? = some 58 ∧ l[j + 1]? = some 47 ∧ l[j + 2]? = some 47 := by
  have e0 : l[j]? = (l.drop j)[0]? := by simp
  have e1 : l[j + 1]? = (l.drop j)[1]? := by simp
  have e2 : l[j + 2]? = (l.drop j)[2]? := by simp
  unfold occAt sepL
  rw [e0, e1, e2]
  generalize l.drop j = d
  match d with
  | [] => simp
  | [a] => simp [List.isPrefixOf]
  | [a, b] => simp [List.isPrefixOf]
  | a :: b :: c :: t =>
    simp [List.isPrefixOf]
    constructor <;> (rintro ⟨rfl, rfl, rfl⟩; exact ⟨rfl, rfl, rfl⟩)

theorem noOcc_of {l : List UInt8} (h : index l sepL < 0) (j : Nat) : occAt l sepL j = false := by
  rcases index_spec l sepL with ⟨_, hn⟩ | ⟨i, hi, _⟩
  · by_cases hj : j ≤ l.length
    · exact hn j hj
    · cases ho : occAt l sepL j with
      | false => rfl
      | true =>
        have := (List.getElem?_eq_some_iff.1 ((occ_get l j).1 ho).1).1
        omega
  · omega

/-- The first separator of a joined text stands behind the scheme. -/
theorem index_join (sc t : List UInt8) (h : index sc sepL < 0) : index (sc ++ (sepL ++ t)) sepL = sc.length := by
  refine index_first (by simp) ?_ fun j hj => ?_
  · rw [occ_get]
    refine ⟨?_, ?_, ?_⟩ <;> rw [List.getElem?_append_right (by omega)] <;> simp [sepL]
  · cases ho : occAt (sc ++ (sepL ++ t)) sepL j with
    | false => rfl
    | true =>
      exfalso
      obtain ⟨a, b, c⟩ := (occ_get _ _).1 ho
      have hsep : (sc ++ (sepL ++ t))[sc.length]? = some 58 := by rw [List.getElem?_append_right (Nat.le_refl _)]; simp [sepL]
      by_cases h1 : j + 2 < sc.length
      · rw [List.getElem?_append_left (by omega)] at a b c
        have := noOcc_of h j
        rw [(occ_get sc j).2 ⟨a, b, c⟩] at this
        cases this
      · by_cases h2 : j + 1 < sc.length
        · have e : j + 2 = sc.length := by omega
          rw [e, hsep] at c
          cases c
        · have e : j + 1 = sc.length := by omega
          rw [e, hsep] at b
          cases b

theorem contains_ps (b : UInt8) : ([47, 63, 35] : List UInt8).contains b = isPS b := by
  unfold isPS
  rw [Bool.eq_iff_iff]
  simp [or_assoc]

theorem noAny_of_hasPS {l t : List UInt8} (h : hasPS l = false) : NoAny (l ++ t) [47, 63, 35] l.length := by
  intro j b hj hb
  rw [List.getElem?_append_left hj] at hb
  rw [contains_ps]
  have := List.any_eq_false.1 h b (List.mem_of_getElem? hb)
  simpa using this

theorem indexAny_join_none (a : List UInt8) (h : hasPS a = false) : indexAny a [47, 63, 35] = -1 := by
  have := noAny_of_hasPS (t := []) h
  rw [List.append_nil] at this
  exact indexAny_none this
theorem indexAny_join_hit (a t : List UInt8) (c : UInt8) (h : hasPS a = false) (hc : isPS c = true) : indexAny (a ++ (c :: t)) [47, 63, 35] = a.length :=
  indexAny_hit (noAny_of_hasPS h) (x := c) (by rw [List.getElem?_append_right (Nat.le_refl _)]; simp) (by rw [contains_ps]; exact hc)

theorem data_get! (s : ByteArray) (j : Nat) (b : UInt8) (h : s.data.toList[j]? = some b) : s.data[j]! = b := by
  have hl := (List.getElem?_eq_some_iff.1 h)
  obtain ⟨hj, he⟩ := hl
  rw [Array.length_toList] at hj
  rw [getElem!_pos s.data j hj]
  exact he

/-- The last '@' of 'userinfo' and 'hosts'. -/
theorem last_join (p : ByteArray) (us ho : List UInt8) (hp : p.data.toList = us ++ ho) (h1 : us = [] ∨ us.getLast? = some 64) (h2 : hasAtB ho = false) : lastIndexByte p 64 = (us.length : Int) - 1 := by
  have hsz : p.size = us.length + ho.length := by rw [size_eq, hp, List.length_append]
  have hho : ∀ j, us.length ≤ j → j < p.size → ((p.data[j]!).toNat : Int) ≠ 64 := by
    intro j hj1 hj2 he
    have hjl : j < p.data.toList.length := by rw [← size_eq]; exact hj2
    have hb : p.data.toList[j]? = some p.data.toList[j] := List.getElem?_eq_getElem hjl
    have e1 := data_get! p j _ hb
    rw [e1] at he
    have hb2 : ho[j - us.length]? = some p.data.toList[j] := by
      rw [← hb, hp, List.getElem?_append_right hj1]
    have := List.any_eq_false.1 h2 _ (List.mem_of_getElem? hb2)
    apply this
    rw [isAtB_int]
    simpa using he
  have hus : us ≠ [] → ((p.data[us.length - 1]!).toNat : Int) = 64 := by
    intro hne
    have hg : us.getLast? = some 64 := h1.resolve_left hne
    have hpos : 0 < us.length := List.length_pos_iff.2 hne
    rw [List.getLast?_eq_getElem?] at hg
    have hb : p.data.toList[us.length - 1]? = some 64 := by rw [hp, List.getElem?_append_left (by omega)]; exact hg
    rw [data_get! p _ _ hb]
    rfl
  rcases lastIndexByte_spec p 64 with ⟨e, hn⟩ | ⟨i, hi, e, hc, hn⟩
  · by_cases hne : us = []
    · subst hne; rw [e]; rfl
    · have hpos : 0 < us.length := List.length_pos_iff.2 hne
      exact absurd (hus hne) (hn _ (by omega))
  · have hlt : i < us.length := by
      by_cases h : i < us.length
      · exact h
      · exact absurd hc (hho i (by omega) hi)
    have hne : us ≠ [] := by intro e0; subst e0; simp at hlt
    by_cases heq : i = us.length - 1
    · rw [e]; omega
    · exact absurd (hus hne) (hn _ (by omega) (by omega))

/-- Whatever text holds the separator is a join of good pieces. -/
theorem split_exists (l : List UInt8) (h : 0 ≤ index l sepL) : ∃ sc us ho re : List UInt8, l = sc ++ (sepL ++ (us ++ (ho ++ re))) ∧ index sc sepL < 0 ∧ (us = [] ∨ us.getLast? = some 64) ∧ hasPS us = false ∧ hasAtB ho = false ∧ hasPS ho = false ∧ (∀ c t, re = c :: t → isPS c = true) := by
  rcases index_spec l sepL with ⟨h', _⟩ | ⟨i, hi, hil, hocc, hno⟩
  · omega
  obtain ⟨a0, a1, a2⟩ := (occ_get l i).1 hocc
  have hl3 : i + 2 < l.length := (List.getElem?_eq_some_iff.1 a2).1
  have hd : l = l.take i ++ (sepL ++ l.drop (i + 3)) := by
    have e : l.drop i = sepL ++ l.drop (i + 3) := by
      rw [List.drop_eq_getElem_cons (by omega), List.drop_eq_getElem_cons (by omega), List.drop_eq_getElem_cons (by omega)]
      have g0 : l[i] = 58 := (List.getElem?_eq_some_iff.1 a0).2
      have g1 : l[i + 1] = 47 := (List.getElem?_eq_some_iff.1 a1).2
      have g2 : l[i + 1 + 1] = 47 := (List.getElem?_eq_some_iff.1 a2).2
      rw [g0, g1, g2]
      rfl
    rw [← e, List.take_append_drop]
  have hsc : index (l.take i) sepL < 0 := by
    rw [index_none]
    · decide
    · intro j _
      cases ho : occAt (l.take i) sepL j with
      | false => rfl
      | true =>
        exfalso
        obtain ⟨b0, b1, b2⟩ := (occ_get _ _).1 ho
        have hj : j + 2 < i := by
          have := (List.getElem?_eq_some_iff.1 b2).1
          rw [List.length_take] at this
          omega
        rw [List.getElem?_take_of_lt (by omega)] at b0 b1 b2
        have := hno j (by omega)
        rw [(occ_get l j).2 ⟨b0, b1, b2⟩] at this
        cases this
  generalize l.take i = sc at hd hsc
  generalize l.drop (i + 3) = af at hd
  -- the authority and the rest
  have e1 : af = af.takeWhile (fun c => !isPS c) ++ af.dropWhile (fun c => !isPS c) := (List.takeWhile_append_dropWhile).symm
  have hA : hasPS (af.takeWhile (fun c => !isPS c)) = false := by
    unfold hasPS
    rw [List.any_eq_false]
    intro x hx
    have := List.all_takeWhile (p := fun c => !isPS c) (l := af)
    have := List.all_eq_true.1 this x hx
    simpa using this
  have hR : ∀ c t, af.dropWhile (fun c => !isPS c) = c :: t → isPS c = true := by
    intro c t he
    have := List.head?_dropWhile_not (fun c => !isPS c) af
    rw [he] at this
    simpa using this
  generalize af.takeWhile (fun c => !isPS c) = a at e1 hA
  generalize af.dropWhile (fun c => !isPS c) = re at e1 hR
  -- userinfo and hosts
  have e2 : a = (a.reverse.dropWhile (fun c => !isAtB c)).reverse ++ (a.reverse.takeWhile (fun c => !isAtB c)).reverse := by
    rw [← List.reverse_append, List.takeWhile_append_dropWhile, List.reverse_reverse]
  have hH : hasAtB (a.reverse.takeWhile (fun c => !isAtB c)).reverse = false := by
    unfold hasAtB
    rw [List.any_eq_false]
    intro x hx
    rw [List.mem_reverse] at hx
    have := List.all_takeWhile (p := fun c => !isAtB c) (l := a.reverse)
    have := List.all_eq_true.1 this x hx
    simpa using this
  have hU : (a.reverse.dropWhile (fun c => !isAtB c)).reverse = [] ∨ (a.reverse.dropWhile (fun c => !isAtB c)).reverse.getLast? = some 64 := by
    have hh := List.head?_dropWhile_not (fun c => !isAtB c) a.reverse
    cases hc : a.reverse.dropWhile (fun c => !isAtB c) with
    | nil => exact Or.inl rfl
    | cons c t =>
      rw [hc] at hh
      refine Or.inr ?_
      have : isAtB c = true := by simpa using hh
      have hc64 : c = 64 := by simpa [isAtB] using this
      rw [List.getLast?_reverse, hc64]
      rfl
  generalize (a.reverse.dropWhile (fun c => !isAtB c)).reverse = us at e2 hU
  generalize (a.reverse.takeWhile (fun c => !isAtB c)).reverse = ho at e2 hH
  subst e2
  unfold hasPS at hA
  rw [List.any_append, Bool.or_eq_false_iff] at hA
  exact ⟨sc, us, ho, re, by rw [hd, e1, List.append_assoc], hsc, hU, hA.1, hH, hA.2, hR⟩
end Go.Proofs.Qxb6602029a
