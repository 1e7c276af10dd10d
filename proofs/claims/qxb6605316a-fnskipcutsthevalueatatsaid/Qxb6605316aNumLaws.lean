/-
  PLAIN LAWS of 'numEnd': bounds, shift, cut. No Go in sight.
-/
import Derived.Test.Qxb6605316aNumPlain
namespace Go.Proofs.Qxb6605316a.Num

theorem run_unique {t : Nat → Int} {n : Nat} : ∀ (f k e : Nat), f = n - k → k ≤ e → (∀ j, k ≤ j → j < e → j < n ∧ 48 ≤ t j ∧ t j ≤ 57) → ¬ (e < n ∧ 48 ≤ t e ∧ t e ≤ 57) → run t n f k = e := by
  intro f
  induction f with
  | zero =>
    intro k e hf hke h1 h2
    by_cases h : k = e
    · rw [run, h]
    · have := (h1 k (Nat.le_refl _) (by omega)).1; omega
  | succ f ih =>
    intro k e hf hke h1 h2
    rw [run]
    by_cases h : k = e
    · subst h; rw [if_neg h2]
    · rw [if_pos (h1 k (Nat.le_refl _) (by omega))]
      exact ih (k + 1) e (by omega) (by omega) (fun j hj => h1 j (by omega)) h2
theorem run_in {t : Nat → Int} {n : Nat} : ∀ (f k j : Nat), k ≤ j → j < run t n f k → j < n ∧ 48 ≤ t j ∧ t j ≤ 57 := by
  intro f
  induction f with
  | zero => intro k j h1 h2; rw [run] at h2; omega
  | succ f ih =>
    intro k j h1 h2
    rw [run] at h2
    split at h2
    · rename_i h
      by_cases e : j = k
      · subst e; exact h
      · exact ih (k + 1) j (by omega) h2
    · omega
theorem run_out {t : Nat → Int} {n : Nat} : ∀ (f k : Nat), f = n - k → ¬ (run t n f k < n ∧ 48 ≤ t (run t n f k) ∧ t (run t n f k) ≤ 57) := by
  intro f
  induction f with
  | zero => intro k hf; rw [run]; omega
  | succ f ih =>
    intro k hf
    rw [run]
    split
    · exact ih (k + 1) (by omega)
    · assumption

/-! ### THE BOUNDS -/
theorem st4_bd (t : Nat → Int) (n : Nat) (r : Int) (a : Nat) (hr : r = -1 ∨ ((a : Int) < r ∧ r ≤ n)) : st4 t n r = -1 ∨ ((a : Int) < st4 t n r ∧ st4 t n r ≤ n) := by
  unfold st4
  split
  · split
    · have := dEnd_bd t n (r.toNat + 2) (by omega); omega
    · have := dEnd_bd t n (r.toNat + 1) (by omega); omega
  · exact hr
theorem st3_bd (t : Nat → Int) (n : Nat) (r : Int) (a : Nat) (hr : r = -1 ∨ ((a : Int) < r ∧ r ≤ n)) : st3 t n r = -1 ∨ ((a : Int) < st3 t n r ∧ st3 t n r ≤ n) := by
  unfold st3
  split
  · refine st4_bd t n _ a ?_
    have := dEnd_bd t n (r.toNat + 1) (by omega); omega
  · exact st4_bd t n r a hr
theorem st2_bd (t : Nat → Int) (n a b : Nat) (h : a ≤ n) (hb : b ≤ a) : st2 t n a = -1 ∨ ((b : Int) < st2 t n a ∧ st2 t n a ≤ n) := by
  unfold st2
  split
  · exact .inl rfl
  · split
    · exact st3_bd t n _ b (by omega)
    · refine st3_bd t n _ b ?_
      have := dEnd_bd t n a h; omega
theorem numEnd_bd (t : Nat → Int) (n a : Nat) (h : a < n) : numEnd t n a = -1 ∨ ((a : Int) < numEnd t n a ∧ numEnd t n a ≤ n) := by
  unfold numEnd
  split
  · exact st2_bd t n (a + 1) a (by omega) (by omega)
  · exact st2_bd t n a a (by omega) (by omega)

/-! ### THE SHIFT -/
/-- An answer moved by p. -/
def sh (p : Nat) (r : Int) : Int := if r = -1 then -1 else r + p
theorem sh_nat (p m : Nat) : sh p (m : Int) = ((p + m : Nat) : Int) := by unfold sh; rw [if_neg (by omega)]; omega
theorem sh_neg (p : Nat) : sh p (-1) = -1 := if_pos rfl

theorem run_shift {t t' : Nat → Int} {n p : Nat} (ht : ∀ k, k < n → t' (p + k) = t k) : ∀ f k, run t' (p + n) f (p + k) = p + run t n f k := by
  intro f
  induction f with
  | zero => intro k; rfl
  | succ f ih =>
    intro k
    rw [run, run]
    by_cases h : k < n ∧ 48 ≤ t k ∧ t k ≤ 57
    · rw [if_pos h, if_pos ⟨by omega, by rw [ht k h.1]; exact h.2⟩, ← ih (k + 1)]; rfl
    · rw [if_neg h, if_neg]
      rintro ⟨h1, h2⟩
      have hk : k < n := by omega
      rw [ht k hk] at h2
      exact h ⟨hk, h2⟩
theorem dEnd_shift {t t' : Nat → Int} {n p : Nat} (ht : ∀ k, k < n → t' (p + k) = t k) (k : Nat) : dEnd t' (p + n) (p + k) = sh p (dEnd t n k) := by
  unfold dEnd
  rw [show p + n - (p + k) = n - k by omega, run_shift ht]
  by_cases h : run t n (n - k) k = k
  · rw [if_pos (by omega), if_pos h, sh_neg]
  · rw [if_neg (by omega), if_neg h, sh_nat]
theorem toNat_sh (p m : Nat) : (sh p (m : Int)).toNat = p + m := by rw [sh_nat]; rfl
theorem st4_shift {t t' : Nat → Int} {n p : Nat} (ht : ∀ k, k < n → t' (p + k) = t k) (r : Int) (hr : -1 ≤ r) : st4 t' (p + n) (sh p r) = sh p (st4 t n r) := by
  by_cases e : r = -1
  · subst e; rw [sh_neg, st4, if_neg (by omega), st4, if_neg (by omega), sh_neg]
  obtain ⟨m, rfl⟩ : ∃ m : Nat, r = m := ⟨r.toNat, by omega⟩
  rw [st4, st4, sh_nat]
  simp only [Int.toNat_natCast]
  by_cases h : m < n
  · rw [ht m h]
    by_cases h1 : t m = 101 ∨ t m = 69
    · rw [if_pos ⟨by omega, by omega, h1⟩, if_pos (show (0 : Int) ≤ m ∧ (m : Int) < n ∧ _ from ⟨by omega, by omega, h1⟩)]
      by_cases h2 : m + 1 < n
      · rw [show p + m + 1 = p + (m + 1) by omega, ht (m + 1) h2, show p + m + 2 = p + (m + 2) by omega, dEnd_shift ht, dEnd_shift ht]
        by_cases h3 : t (m + 1) = 43 ∨ t (m + 1) = 45
        · rw [if_pos ⟨by omega, h3⟩, if_pos ⟨h2, h3⟩]
        · rw [if_neg (fun q => h3 q.2), if_neg (fun q => h3 q.2)]
      · rw [if_neg (by omega), if_neg (by omega), show p + m + 1 = p + (m + 1) by omega, dEnd_shift ht]
    · rw [if_neg (fun q => h1 q.2.2), if_neg (fun q => h1 q.2.2), sh_nat]
  · rw [if_neg (by omega), if_neg (by omega), sh_nat]
theorem st3_shift {t t' : Nat → Int} {n p : Nat} (ht : ∀ k, k < n → t' (p + k) = t k) (r : Int) (hr : -1 ≤ r) (hn : r ≤ n) : st3 t' (p + n) (sh p r) = sh p (st3 t n r) := by
  by_cases e : r = -1
  · subst e
    have := st4_shift ht (-1) (by omega)
    rw [sh_neg] at this
    rw [sh_neg, st3, if_neg (by omega), st3, if_neg (by omega), this]
  obtain ⟨m, rfl⟩ : ∃ m : Nat, r = m := ⟨r.toNat, by omega⟩
  rw [st3, st3, sh_nat]
  simp only [Int.toNat_natCast]
  by_cases h : m < n
  · rw [ht m h]
    by_cases h1 : t m = 46
    · rw [if_pos ⟨by omega, by omega, h1⟩, if_pos (show (0 : Int) ≤ m ∧ (m : Int) < n ∧ _ from ⟨by omega, by omega, h1⟩), show p + m + 1 = p + (m + 1) by omega, dEnd_shift ht, st4_shift ht]
      have := dEnd_bd t n (m + 1) (by omega); omega
    · rw [if_neg (fun q => h1 q.2.2), if_neg (fun q => h1 q.2.2), ← sh_nat, st4_shift ht _ hr]
  · rw [if_neg (by omega), if_neg (by omega), ← sh_nat, st4_shift ht _ hr]
theorem st2_shift {t t' : Nat → Int} {n p : Nat} (ht : ∀ k, k < n → t' (p + k) = t k) (a : Nat) (ha : a ≤ n) : st2 t' (p + n) (p + a) = sh p (st2 t n a) := by
  rw [st2, st2]
  by_cases h : a = n
  · rw [if_pos (by omega), if_pos h, sh_neg]
  · rw [if_neg (by omega), if_neg h, ht a (by omega)]
    split
    · have := st3_shift ht ((a + 1 : Nat) : Int) (by omega) (by omega)
      rw [sh_nat] at this
      exact this
    · have := dEnd_bd t n a ha
      rw [dEnd_shift ht, st3_shift ht _ (by omega) (by omega)]
theorem numEnd_shift {t t' : Nat → Int} {n p : Nat} (ht : ∀ k, k < n → t' (p + k) = t k) (a : Nat) (ha : a < n) : numEnd t' (p + n) (p + a) = sh p (numEnd t n a) := by
  rw [numEnd, numEnd, ht a ha]
  split
  · exact st2_shift ht (a + 1) (by omega)
  · exact st2_shift ht a (by omega)

/-! ### THE CUT -/
theorem dEnd_cut {t : Nat → Int} {n m k : Nat} {d : Nat} (h : dEnd t n k = (d : Int)) (hd : d ≤ m) (hm : m ≤ n) : dEnd t m k = (d : Int) := by
  unfold dEnd at h
  split at h
  · omega
  rename_i hne
  have hd' : run t n (n - k) k = d := by omega
  have hge := run_ge t n (n - k) k
  have e : run t m (m - k) k = d := by
    refine run_unique _ _ _ rfl (by omega) (fun j h1 h2 => ?_) (fun q => ?_)
    · have := run_in (n - k) k j h1 (by omega : j < run t n (n - k) k)
      exact ⟨by omega, this.2⟩
    · refine run_out (t := t) (n := n) (n - k) k rfl ?_
      rw [hd']
      exact ⟨by omega, q.2⟩
  unfold dEnd
  rw [e, if_neg (by omega)]
theorem dEnd_gt {t : Nat → Int} {n k : Nat} {d : Nat} (h : dEnd t n k = (d : Int)) : k < d ∧ k < n := by
  unfold dEnd at h
  split at h
  · omega
  rename_i hne
  have hge := run_ge t n (n - k) k
  have := run_in (n - k) k k (Nat.le_refl _) (by omega : k < run t n (n - k) k)
  omega
theorem st4_cut {t : Nat → Int} {n m : Nat} {r : Nat} (h : st4 t n (r : Int) = (m : Int)) (hm : m ≤ n) : r ≤ m ∧ st4 t m (r : Int) = (m : Int) := by
  rw [st4] at h
  simp only [Int.toNat_natCast] at h
  by_cases h1 : (0 : Int) ≤ r ∧ (r : Int) < n ∧ (t r = 101 ∨ t r = 69)
  · rw [if_pos h1] at h
    by_cases h2 : r + 1 < n ∧ (t (r + 1) = 43 ∨ t (r + 1) = 45)
    · rw [if_pos h2] at h
      have g := dEnd_gt h
      refine ⟨by omega, ?_⟩
      rw [st4]
      simp only [Int.toNat_natCast]
      rw [if_pos ⟨by omega, by omega, h1.2.2⟩, if_pos ⟨by omega, h2.2⟩, dEnd_cut h (Nat.le_refl _) hm]
    · rw [if_neg h2] at h
      have g := dEnd_gt h
      refine ⟨by omega, ?_⟩
      rw [st4]
      simp only [Int.toNat_natCast]
      rw [if_pos ⟨by omega, by omega, h1.2.2⟩, if_neg (fun q => h2 ⟨by omega, q.2⟩), dEnd_cut h (Nat.le_refl _) hm]
  · rw [if_neg h1] at h
    obtain rfl : r = m := by omega
    exact ⟨Nat.le_refl _, by rw [st4, if_neg (by omega)]⟩
theorem st4_m1 {t : Nat → Int} {n : Nat} : st4 t n (-1) = -1 := by rw [st4, if_neg (by omega)]
theorem st3_m1 {t : Nat → Int} {n : Nat} : st3 t n (-1) = -1 := by rw [st3, if_neg (by omega), st4_m1]
theorem st3_cut {t : Nat → Int} {n m : Nat} {r : Nat} (h : st3 t n (r : Int) = (m : Int)) (hm : m ≤ n) : r ≤ m ∧ st3 t m (r : Int) = (m : Int) := by
  rw [st3] at h
  simp only [Int.toNat_natCast] at h
  by_cases h1 : (0 : Int) ≤ r ∧ (r : Int) < n ∧ t r = 46
  · rw [if_pos h1] at h
    have hb := dEnd_bd t n (r + 1) (by omega)
    by_cases e : dEnd t n (r + 1) = -1
    · rw [e, st4_m1] at h; omega
    obtain ⟨d, hd⟩ : ∃ d : Nat, dEnd t n (r + 1) = d := ⟨(dEnd t n (r + 1)).toNat, by omega⟩
    rw [hd] at h
    have g := dEnd_gt hd
    obtain ⟨hdm, hc⟩ := st4_cut h hm
    refine ⟨by omega, ?_⟩
    rw [st3]
    simp only [Int.toNat_natCast]
    rw [if_pos ⟨by omega, by omega, h1.2.2⟩, dEnd_cut hd hdm hm, hc]
  · rw [if_neg h1] at h
    obtain ⟨hrm, hc⟩ := st4_cut h hm
    refine ⟨hrm, ?_⟩
    rw [st3]
    simp only [Int.toNat_natCast]
    rw [if_neg (fun q => h1 ⟨q.1, by omega, q.2.2⟩), hc]
theorem st2_cut {t : Nat → Int} {n m a : Nat} (h : st2 t n a = (m : Int)) (ha : a ≤ n) (hm : m ≤ n) : st2 t m a = (m : Int) := by
  rw [st2] at h
  by_cases h1 : a = n
  · rw [if_pos h1] at h; omega
  rw [if_neg h1] at h
  by_cases h2 : t a = 48
  · rw [if_pos h2] at h
    obtain ⟨hrm, hc⟩ := st3_cut h hm
    rw [st2, if_neg (by omega), if_pos h2, hc]
  · rw [if_neg h2] at h
    have hb := dEnd_bd t n a ha
    by_cases e : dEnd t n a = -1
    · rw [e, st3_m1] at h; omega
    obtain ⟨d, hd⟩ : ∃ d : Nat, dEnd t n a = d := ⟨(dEnd t n a).toNat, by omega⟩
    rw [hd] at h
    have g := dEnd_gt hd
    obtain ⟨hdm, hc⟩ := st3_cut h hm
    rw [st2, if_neg (by omega), if_neg h2, dEnd_cut hd hdm hm, hc]
theorem numEnd_cut {t : Nat → Int} {n m a : Nat} (h : numEnd t n a = (m : Int)) (ha : a < n) (hm : m ≤ n) : numEnd t m a = (m : Int) := by
  rw [numEnd] at h ⊢
  split
  · rename_i e; rw [if_pos e] at h; exact st2_cut h (by omega) hm
  · rename_i e; rw [if_neg e] at h; exact st2_cut h (by omega) hm
end Go.Proofs.Qxb6605316a.Num
