/-
  PLAIN: what 'digitsEnd' and 'numberEnd' compute, over a text 't : Nat → Int' of 'n' bytes; no Go in sight.
-/
namespace Go.Proofs.Qxb6605316a.Num

/-- The offset just past the decimal digits from k on; at most f of them. -/
def run (t : Nat → Int) (n : Nat) : Nat → Nat → Nat
  | 0, k => k
  | f + 1, k => if k < n ∧ 48 ≤ t k ∧ t k ≤ 57 then run t n f (k + 1) else k

/-- digitsEnd. -/
def dEnd (t : Nat → Int) (n k : Nat) : Int :=
  if run t n (n - k) k = k then -1 else (run t n (n - k) k : Nat)

/-- The last stage of numberEnd: the exponent, from the offset r (or -1) on. -/
def st4 (t : Nat → Int) (n : Nat) (r : Int) : Int :=
  if 0 ≤ r ∧ r < n ∧ (t r.toNat = 101 ∨ t r.toNat = 69) then
    (if r.toNat + 1 < n ∧ (t (r.toNat + 1) = 43 ∨ t (r.toNat + 1) = 45) then dEnd t n (r.toNat + 2) else dEnd t n (r.toNat + 1))
  else r

/-- The fraction, then the exponent. -/
def st3 (t : Nat → Int) (n : Nat) (r : Int) : Int :=
  if 0 ≤ r ∧ r < n ∧ t r.toNat = 46 then st4 t n (dEnd t n (r.toNat + 1)) else st4 t n r

/-- Behind the sign. -/
def st2 (t : Nat → Int) (n a : Nat) : Int :=
  if a = n then -1 else if t a = 48 then st3 t n ((a + 1 : Nat) : Int) else st3 t n (dEnd t n a)

/-- numberEnd. -/
def numEnd (t : Nat → Int) (n a : Nat) : Int :=
  if t a = 45 then st2 t n (a + 1) else st2 t n a

theorem run_step {t : Nat → Int} {n k : Nat} (h : k < n) (h1 : 48 ≤ t k) (h2 : t k ≤ 57) : run t n (n - k) k = run t n (n - (k + 1)) (k + 1) := by
  obtain ⟨f, hf⟩ : ∃ f, n - k = f + 1 := ⟨n - k - 1, by omega⟩
  rw [hf, run, if_pos ⟨h, h1, h2⟩, show n - (k + 1) = f by omega]
theorem run_stop {t : Nat → Int} {n k : Nat} (h : ¬ (k < n ∧ 48 ≤ t k ∧ t k ≤ 57)) (f : Nat) : run t n f k = k := by
  cases f with
  | zero => rfl
  | succ f => rw [run, if_neg h]
theorem run_ge (t : Nat → Int) (n : Nat) : ∀ f k, k ≤ run t n f k := by
  intro f
  induction f with
  | zero => intro k; exact Nat.le_refl _
  | succ f ih =>
    intro k
    rw [run]
    split
    · have := ih (k + 1); omega
    · exact Nat.le_refl _
theorem run_le (t : Nat → Int) (n : Nat) : ∀ f k, k ≤ n → run t n f k ≤ n := by
  intro f
  induction f with
  | zero => intro k h; exact h
  | succ f ih =>
    intro k h
    rw [run]
    split
    · exact ih (k + 1) (by omega)
    · exact h
theorem dEnd_out {t : Nat → Int} {n a k : Nat} (h : run t n (n - k) k = run t n (n - a) a) (h1 : ¬ (k < n ∧ 48 ≤ t k ∧ t k ≤ 57)) : dEnd t n a = if k = a then -1 else (k : Int) := by
  unfold dEnd
  rw [← h, run_stop h1]

/-! ### THE ANSWER's BOUNDS -/
theorem dEnd_bd (t : Nat → Int) (n k : Nat) (hk : k ≤ n) : dEnd t n k = -1 ∨ ((k : Int) < dEnd t n k ∧ dEnd t n k ≤ n) := by
  unfold dEnd
  have h1 := run_ge t n (n - k) k
  have h2 := run_le t n (n - k) k hk
  split
  · exact .inl rfl
  · right; omega
end Go.Proofs.Qxb6605316a.Num
