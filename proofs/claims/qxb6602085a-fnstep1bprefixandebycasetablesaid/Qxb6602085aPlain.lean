/-
  THE PLAIN LAYER of seat b6602085a: Porter's step 1b over lists of bytes; no Go in sight.
-/
namespace Go.Proofs.Qxb6602085a

/-- a, e, i, o, u. -/
def isV (x : UInt8) : Bool := x == 97 || x == 101 || x == 105 || x == 111 || x == 117
/-- Is byte i of l a consonant? -/
def cons (l : List UInt8) : Nat → Bool
  | 0 => !isV (l.getD 0 0)
  | i + 1 => if isV (l.getD (i + 1) 0) then false else if l.getD (i + 1) 0 == 121 then !cons l i else true

theorem beqInt (c k : UInt8) : (c == k) = ((c.toNat : Int) == (k.toNat : Int)) := by
  by_cases h : c = k
  · subst h; simp
  · have h' : ¬ (c.toNat : Int) = (k.toNat : Int) := fun e => h (UInt8.toNat_inj.1 (by omega))
    have h1 : (c == k) = false := by simpa using h
    have h2 : ((c.toNat : Int) == (k.toNat : Int)) = false := by simpa using h'
    rw [h1, h2]
theorem isV_int (x : UInt8) : isV x = ((x.toNat : Int) == 97 || (x.toNat : Int) == 101 || (x.toNat : Int) == 105 || (x.toNat : Int) == 111 || (x.toNat : Int) == 117) := by
  unfold isV; rw [beqInt, beqInt, beqInt, beqInt, beqInt]; rfl

/-- How many places j of 1 .. k-1 hold a consonant right behind a vowel. -/
def measTo (l : List UInt8) : Nat → Nat
  | 0 => 0
  | j + 1 => measTo l j + (if j ≠ 0 ∧ cons l j = true ∧ cons l (j - 1) = false then 1 else 0)
theorem measTo_le (l : List UInt8) : ∀ k, measTo l k ≤ k
  | 0 => Nat.le_refl _
  | j + 1 => by
    have := measTo_le l j
    show measTo l j + _ ≤ _
    split <;> omega
theorem measTo_succ (l : List UInt8) (j : Nat) : measTo l (j + 1) = measTo l j + (if j ≠ 0 ∧ cons l j = true ∧ cons l (j - 1) = false then 1 else 0) := rfl
/-- Is there a vowel among the first k? -/
def hvTo (l : List UInt8) : Nat → Bool
  | 0 => false
  | j + 1 => hvTo l j || !cons l j
theorem hvTo_true {l : List UInt8} {k : Nat} (h : cons l k = false) : ∀ n, k < n → hvTo l n = true
  | 0, hk => absurd hk (Nat.not_lt_zero _)
  | n + 1, hk => by
    show (hvTo l n || !cons l n) = true
    by_cases e : k = n
    · subst e; rw [h]; simp
    · rw [hvTo_true h n (by omega)]; rfl
def endsCVC (l : List UInt8) (n : Nat) : Bool :=
  decide (3 ≤ n) && cons l (n - 3) && !cons l (n - 2) && cons l (n - 1) && l.getD (n - 1) 0 != 119 && l.getD (n - 1) 0 != 120 && l.getD (n - 1) 0 != 121
def endsDouble (l : List UInt8) (n : Nat) : Bool := decide (2 ≤ n) && l.getD (n - 1) 0 == l.getD (n - 2) 0 && !isV (l.getD (n - 1) 0)
/-- The first n bytes of l end in suf and hold more than it. -/
def cuts (l : List UInt8) (n : Nat) (suf : List UInt8) : Bool := decide (suf.length < n) && (l.take n).drop (n - suf.length) == suf
def sEED : List UInt8 := [101, 101, 100]
def sED : List UInt8 := [101, 100]
def sING : List UInt8 := [105, 110, 103]
def sAT : List UInt8 := [97, 116]
def sBL : List UInt8 := [98, 108]
def sIZ : List UInt8 := [105, 122]
def lastOK (z : UInt8) : Bool := z != 108 && z != 115 && z != 122
/-- How the stem of k bytes is mended: how many bytes are kept, and whether an e is put behind them. -/
def tailN (l : List UInt8) (k : Nat) : Nat × Bool :=
  if cuts l k sAT || cuts l k sBL || cuts l k sIZ then (k, true)
  else if endsDouble l k && lastOK (l.getD (k - 1) 0) then (k - 1, false)
  else if measTo l k == 1 && endsCVC l k then (k, true)
  else (k, false)
/-- Step 1b on the first n bytes of l. -/
def st (l : List UInt8) (n : Nat) : Nat × Bool :=
  if cuts l n sEED then (if 0 < measTo l (n - 3) then (n - 1, false) else (n, false))
  else if cuts l n sED then (if hvTo l (n - 2) then tailN l (n - 2) else (n, false))
  else if cuts l n sING then (if hvTo l (n - 3) then tailN l (n - 3) else (n, false))
  else (n, false)

/-- The closed form of holding a vowel. -/
def shvAt (l : List UInt8) (i : Nat) : Bool := isV (l.getD i 0) || (l.getD i 0 == 121 && decide (1 ≤ i))
def shvTo (l : List UInt8) : Nat → Bool
  | 0 => false
  | j + 1 => shvTo l j || shvAt l j
theorem shvTo_true {l : List UInt8} {k : Nat} (h : shvAt l k = true) : ∀ n, k < n → shvTo l n = true
  | 0, hk => absurd hk (Nat.not_lt_zero _)
  | n + 1, hk => by
    show (shvTo l n || shvAt l n) = true
    by_cases e : k = n
    · subst e; rw [h]; simp
    · rw [shvTo_true h n (by omega)]; rfl

/-- A vowel of either kind among the first n: the two forms agree. -/
theorem shv_eq (l : List UInt8) : ∀ n, shvTo l n = hvTo l n
  | 0 => rfl
  | 1 => by
    show (false || shvAt l 0) = (false || !cons l 0)
    show (false || (isV (l.getD 0 0) || (l.getD 0 0 == 121 && false))) = (false || !(!isV (l.getD 0 0)))
    simp
  | j + 2 => by
    have ih := shv_eq l (j + 1)
    show (shvTo l (j + 1) || shvAt l (j + 1)) = (hvTo l (j + 1) || !cons l (j + 1))
    rw [ih]
    cases hv : hvTo l (j + 1) with
    | true => rfl
    | false =>
      have hc : cons l j = true := by
        cases hc : cons l j with
        | true => rfl
        | false =>
          have := hvTo_true hc (j + 1) (by omega)
          rw [hv] at this
          cases this
      rw [Bool.false_or, Bool.false_or]
      show (isV (l.getD (j + 1) 0) || (l.getD (j + 1) 0 == 121 && decide (1 ≤ j + 1))) = !(if isV (l.getD (j + 1) 0) then false else if l.getD (j + 1) 0 == 121 then !cons l j else true)
      rw [hc, decide_eq_true (by omega)]
      cases isV (l.getD (j + 1) 0) <;> cases (l.getD (j + 1) 0 == 121) <;> rfl
end Go.Proofs.Qxb6602085a
