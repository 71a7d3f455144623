/-
  THE PLAIN LAYER of seat b6602085a, second text: what hangs on the first n bytes alone; the words stem+ed and stem+ing.
-/
import Derived.Test.Qxb6602085aPlain
namespace Go.Proofs.Qxb6602085a

theorem getD_take {l l' : List UInt8} {n : Nat} (h : l.take n = l'.take n) (i : Nat) (hi : i < n) : l.getD i 0 = l'.getD i 0 := by
  have h1 : (l.take n)[i]? = l[i]? := List.getElem?_take_of_lt hi
  have h2 : (l'.take n)[i]? = l'[i]? := List.getElem?_take_of_lt hi
  rw [List.getD, List.getD, ← h1, ← h2, h]

theorem cons_congr {l l' : List UInt8} {n : Nat} (h : l.take n = l'.take n) : ∀ i, i < n → cons l i = cons l' i
  | 0, hi => by
    show (!isV (l.getD 0 0)) = (!isV (l'.getD 0 0))
    rw [getD_take h 0 hi]
  | i + 1, hi => by
    show (if isV (l.getD (i + 1) 0) then false else if l.getD (i + 1) 0 == 121 then !cons l i else true) = (if isV (l'.getD (i + 1) 0) then false else if l'.getD (i + 1) 0 == 121 then !cons l' i else true)
    rw [getD_take h (i + 1) hi, cons_congr h i (by omega)]
theorem measTo_congr {l l' : List UInt8} {n : Nat} (h : l.take n = l'.take n) : ∀ k, k ≤ n → measTo l k = measTo l' k
  | 0, _ => rfl
  | j + 1, hk => by
    rw [measTo_succ, measTo_succ, measTo_congr h j (by omega), cons_congr h j (by omega), cons_congr h (j - 1) (by omega)]
theorem hvTo_congr {l l' : List UInt8} {n : Nat} (h : l.take n = l'.take n) : ∀ k, k ≤ n → hvTo l k = hvTo l' k
  | 0, _ => rfl
  | j + 1, hk => by
    show (hvTo l j || !cons l j) = (hvTo l' j || !cons l' j)
    rw [hvTo_congr h j (by omega), cons_congr h j (by omega)]
theorem endsCVC_congr {l l' : List UInt8} {n : Nat} (h : l.take n = l'.take n) : endsCVC l n = endsCVC l' n := by
  unfold endsCVC
  by_cases hn : 3 ≤ n
  · rw [cons_congr h (n - 3) (by omega), cons_congr h (n - 2) (by omega), cons_congr h (n - 1) (by omega), getD_take h (n - 1) (by omega)]
  · rw [decide_eq_false hn]; rfl
theorem endsDouble_congr {l l' : List UInt8} {n : Nat} (h : l.take n = l'.take n) : endsDouble l n = endsDouble l' n := by
  unfold endsDouble
  by_cases hn : 2 ≤ n
  · rw [getD_take h (n - 1) (by omega), getD_take h (n - 2) (by omega)]
  · rw [decide_eq_false hn]; rfl
theorem cuts_congr {l l' : List UInt8} {n : Nat} (h : l.take n = l'.take n) (suf : List UInt8) : cuts l n suf = cuts l' n suf := by
  unfold cuts
  rw [h]
theorem cuts_zero (l suf : List UInt8) : cuts l 0 suf = false := by
  unfold cuts
  rw [decide_eq_false (by omega)]; rfl
theorem tailN_congr {l l' : List UInt8} {n : Nat} (h : l.take n = l'.take n) (hn : 1 ≤ n) : tailN l n = tailN l' n := by
  unfold tailN
  rw [cuts_congr h, cuts_congr h, cuts_congr h, endsDouble_congr h, endsCVC_congr h, measTo_congr h n (Nat.le_refl _), getD_take h (n - 1) (by omega)]
theorem tailN_le (l : List UInt8) (k : Nat) : (tailN l k).1 ≤ k := by
  unfold tailN
  repeat' split
  all_goals first | exact Nat.le_refl _ | exact Nat.sub_le _ _

theorem take_app (s t : List UInt8) : (s ++ t).take s.length = s.take s.length := by simp

theorem cuts_app (s t suf : List UInt8) (n : Nat) (hn : n = s.length + t.length) (h : suf.length ≤ t.length) : cuts (s ++ t) n suf = (decide (suf.length < n) && t.drop (t.length - suf.length) == suf) := by
  subst hn
  unfold cuts
  have e1 : (s ++ t).take (s.length + t.length) = s ++ t := List.take_of_length_le (by simp)
  have e2 : s.length + t.length - suf.length = s.length + (t.length - suf.length) := by omega
  rw [e1, e2, List.drop_append, List.drop_eq_nil_of_le (by omega)]
  simp

theorem drop_last (s : List UInt8) (k : Nat) (h : s.length = k + 1) : s.drop k = [s.getD k 0] := by
  rw [List.drop_eq_getElem_cons (by omega), List.drop_eq_nil_of_le (by omega), List.getD, List.getElem?_eq_getElem (by omega)]
  rfl

theorem eed_ed (s : List UInt8) (hne : 2 ≤ s.length → s.getD (s.length - 1) 0 ≠ 101) : cuts (s ++ [101, 100]) (s.length + 2) sEED = false := by
  by_cases hn : 2 ≤ s.length
  · obtain ⟨k, hk⟩ : ∃ k, s.length = k + 1 := ⟨s.length - 1, by omega⟩
    unfold cuts
    have e1 : (s ++ [101, 100]).take (s.length + 2) = s ++ [101, 100] := List.take_of_length_le (by simp)
    have e2 : s.length + 2 - sEED.length = k := by rw [hk]; simp [sEED]
    rw [e1, e2, List.drop_append_of_le_length (by omega), drop_last s k hk]
    have h1 := hne hn
    rw [hk] at h1
    have h2 : s.getD k 0 ≠ 101 := h1
    have h3 : (([s.getD k 0] ++ [101, 100] : List UInt8) == sEED) = false := by
      simp only [List.cons_append, List.nil_append, sEED]
      simpa using h2
    rw [h3, Bool.and_false]
  · unfold cuts
    rw [decide_eq_false (by simp [sEED]; omega)]; rfl

/-- Step 1b on stem+ed. -/
theorem st_ed (s : List UInt8) (hne : 2 ≤ s.length → s.getD (s.length - 1) 0 ≠ 101) :
    st (s ++ [101, 100]) (s.length + 2) = if hvTo s s.length then tailN s s.length else (s.length + 2, false) := by
  have h1 := eed_ed s hne
  by_cases hn : s.length = 0
  · have hs : s = [] := List.length_eq_zero_iff.1 hn
    subst hs
    rfl
  · have h2 : cuts (s ++ [101, 100]) (s.length + 2) sED = true := by
      rw [cuts_app s [101, 100] sED (s.length + 2) rfl (by decide), decide_eq_true (by show 2 < s.length + 2; omega)]
      rfl
    unfold st
    rw [if_neg (by rw [h1]; simp), if_pos h2, show s.length + 2 - 2 = s.length from rfl, hvTo_congr (take_app s [101, 100]) s.length (Nat.le_refl _), tailN_congr (take_app s [101, 100]) (by omega)]

/-- Step 1b on stem+ing. -/
theorem st_ing (s : List UInt8) : st (s ++ [105, 110, 103]) (s.length + 3) = if hvTo s s.length then tailN s s.length else (s.length + 3, false) := by
  have h1 : cuts (s ++ [105, 110, 103]) (s.length + 3) sEED = false := by
    rw [cuts_app s [105, 110, 103] sEED (s.length + 3) rfl (by decide), show (List.drop (([105, 110, 103] : List UInt8).length - sEED.length) ([105, 110, 103] : List UInt8) == sEED) = false from by decide, Bool.and_false]
  have h2 : cuts (s ++ [105, 110, 103]) (s.length + 3) sED = false := by
    rw [cuts_app s [105, 110, 103] sED (s.length + 3) rfl (by decide), show (List.drop (([105, 110, 103] : List UInt8).length - sED.length) ([105, 110, 103] : List UInt8) == sED) = false from by decide, Bool.and_false]
  by_cases hn : s.length = 0
  · have hs : s = [] := List.length_eq_zero_iff.1 hn
    subst hs
    rfl
  · have h3 : cuts (s ++ [105, 110, 103]) (s.length + 3) sING = true := by
      rw [cuts_app s [105, 110, 103] sING (s.length + 3) rfl (by decide), decide_eq_true (by show 3 < s.length + 3; omega)]
      rfl
    unfold st
    rw [if_neg (by rw [h1]; simp), if_neg (by rw [h2]; simp), if_pos h3, show s.length + 3 - 3 = s.length from rfl, hvTo_congr (take_app s [105, 110, 103]) s.length (Nat.le_refl _), tailN_congr (take_app s [105, 110, 103]) (by omega)]

/-- What is left of a word: its first bytes, an e behind them or not. -/
def left (l : List UInt8) (r : Nat × Bool) : List UInt8 := if r.2 then l.take r.1 ++ [101] else l
theorem left_get (s t u : List UInt8) (r : Nat × Bool) (h : r.1 ≤ s.length) (i : Nat) (hi : i < r.1 + r.2.toNat) : (left (s ++ t) r).getD i 0 = (left (s ++ u) r).getD i 0 := by
  obtain ⟨k, b⟩ := r
  cases b
  · have hi' : i < k := hi
    have hk : k ≤ s.length := h
    show (s ++ t).getD i 0 = (s ++ u).getD i 0
    rw [List.getD, List.getD, List.getElem?_append_left (by omega), List.getElem?_append_left (by omega)]
  · have hk : k ≤ s.length := h
    show ((s ++ t).take k ++ [101]).getD i 0 = ((s ++ u).take k ++ [101]).getD i 0
    rw [List.take_append_of_le_length hk, List.take_append_of_le_length hk]
end Go.Proofs.Qxb6602085a
