/-
  PLAIN: the table-driven automaton; it answers what 'numEnd' answers. No Go in sight.
-/
import Derived.Test.Qxb6605316aNumLaws
namespace Go.Proofs.Qxb6605316a.Num

/-- numStep. -/
def step : Nat → Int → Int
  | 0, c => if c = 45 then 1 else if c = 48 then 2 else if 48 ≤ c ∧ c ≤ 57 then 3 else -1
  | 1, c => if c = 48 then 2 else if 48 ≤ c ∧ c ≤ 57 then 3 else -1
  | 2, c => if c = 46 then 4 else if c = 101 ∨ c = 69 then 6 else -1
  | 3, c => if 48 ≤ c ∧ c ≤ 57 then 3 else if c = 46 then 4 else if c = 101 ∨ c = 69 then 6 else -1
  | 4, c => if 48 ≤ c ∧ c ≤ 57 then 5 else -1
  | 5, c => if 48 ≤ c ∧ c ≤ 57 then 5 else if c = 101 ∨ c = 69 then 6 else -1
  | 6, c => if c = 43 ∨ c = 45 then 7 else if 48 ≤ c ∧ c ≤ 57 then 8 else -1
  | 7, c => if 48 ≤ c ∧ c ≤ 57 then 8 else -1
  | 8, c => if 48 ≤ c ∧ c ≤ 57 then 8 else -1
  | _, _ => -1

/-- The answer where it stopped. -/
def fin (s i : Nat) : Int := if s = 2 ∨ s = 3 ∨ s = 5 ∨ s = 8 then (i : Int) else -1

/-- The automaton's loop; at most f bytes more. -/
def aut (t : Nat → Int) (n : Nat) : Nat → Nat → Nat → Int
  | 0, s, i => fin s i
  | f + 1, s, i => if i < n ∧ 0 ≤ step s (t i) then aut t n f (step s (t i)).toNat (i + 1) else fin s i

theorem step_lt (s : Nat) (c : Int) : step s c = -1 ∨ (0 ≤ step s c ∧ step s c ≤ 8) := by
  unfold step
  split <;> (try split) <;> (try split) <;> (try split) <;> omega

theorem aut_go {t : Nat → Int} {n s i s' : Nat} (h : i < n) (hs : step s (t i) = (s' : Int)) : aut t n (n - i) s i = aut t n (n - (i + 1)) s' (i + 1) := by
  obtain ⟨f, hf⟩ : ∃ f, n - i = f + 1 := ⟨n - i - 1, by omega⟩
  rw [hf, aut, if_pos ⟨h, by omega⟩, show n - (i + 1) = f by omega, hs]; rfl
theorem aut_end {t : Nat → Int} {n s i : Nat} (h : ¬ i < n) (f : Nat) : aut t n f s i = fin s i := by
  cases f with
  | zero => rfl
  | succ f => rw [aut, if_neg (by omega)]
theorem aut_stop {t : Nat → Int} {n s i : Nat} (hs : step s (t i) = -1) (f : Nat) : aut t n f s i = fin s i := by
  cases f with
  | zero => rfl
  | succ f => rw [aut, if_neg (by omega)]

theorem run_go {t : Nat → Int} {n i : Nat} (h : i < n) (hd : 48 ≤ t i ∧ t i ≤ 57) : run t n (n - i) i = run t n (n - (i + 1)) (i + 1) := run_step h hd.1 hd.2
theorem dEnd_go {t : Nat → Int} {n i : Nat} (h : i < n) (hd : 48 ≤ t i ∧ t i ≤ 57) : dEnd t n i = (run t n (n - (i + 1)) (i + 1) : Nat) := by
  have h1 := run_ge t n (n - (i + 1)) (i + 1)
  unfold dEnd
  rw [run_go h hd, if_neg (by omega)]
theorem dEnd_stop {t : Nat → Int} {n i : Nat} (h : ¬ (i < n ∧ 48 ≤ t i ∧ t i ≤ 57)) : dEnd t n i = -1 := by
  unfold dEnd
  rw [run_stop h, if_pos rfl]

theorem aut8 (t : Nat → Int) (n : Nat) : ∀ (f i : Nat), f = n - i → aut t n (n - i) 8 i = (run t n (n - i) i : Nat) := by
  intro f
  induction f with
  | zero =>
    intro i hf
    rw [aut_end (by omega), run_stop (by omega)]; rfl
  | succ f ih =>
    intro i hf
    by_cases hd : 48 ≤ t i ∧ t i ≤ 57
    · rw [aut_go (s' := 8) (by omega) (by rw [step, if_pos hd]; rfl), run_go (by omega) hd, ih (i + 1) (by omega)]
    · rw [aut_stop (by rw [step, if_neg hd]), run_stop (fun q => hd q.2)]; rfl
theorem aut7 (t : Nat → Int) (n i : Nat) : aut t n (n - i) 7 i = dEnd t n i := by
  by_cases h : i < n
  · by_cases hd : 48 ≤ t i ∧ t i ≤ 57
    · rw [aut_go (s' := 8) h (by rw [step, if_pos hd]; rfl), dEnd_go h hd, aut8 t n _ _ rfl]
    · rw [aut_stop (by rw [step, if_neg hd]), dEnd_stop (fun q => hd q.2)]; rfl
  · rw [aut_end h, dEnd_stop (by omega)]; rfl
theorem aut6 (t : Nat → Int) (n i : Nat) : aut t n (n - i) 6 i = if i < n ∧ (t i = 43 ∨ t i = 45) then dEnd t n (i + 1) else dEnd t n i := by
  by_cases h : i < n
  · by_cases hs : t i = 43 ∨ t i = 45
    · rw [aut_go (s' := 7) h (by rw [step, if_pos hs]; rfl), if_pos ⟨h, hs⟩, aut7]
    · rw [if_neg (fun q => hs q.2)]
      by_cases hd : 48 ≤ t i ∧ t i ≤ 57
      · rw [aut_go (s' := 8) h (by rw [step, if_neg hs, if_pos hd]; rfl), dEnd_go h hd, aut8 t n _ _ rfl]
      · rw [aut_stop (by rw [step, if_neg hs, if_neg hd]), dEnd_stop (fun q => hd q.2)]; rfl
  · rw [aut_end h, if_neg (by omega), dEnd_stop (by omega)]; rfl
theorem st4_at {t : Nat → Int} {n i : Nat} (h : i < n) (he : t i = 101 ∨ t i = 69) : st4 t n (i : Int) = aut t n (n - (i + 1)) 6 (i + 1) := by
  rw [st4, aut6]
  simp only [Int.toNat_natCast]
  rw [if_pos ⟨by omega, by omega, he⟩]
theorem st4_nat {t : Nat → Int} {n i : Nat} (h : ¬ (i < n ∧ (t i = 101 ∨ t i = 69))) : st4 t n (i : Int) = (i : Int) := by
  rw [st4]
  simp only [Int.toNat_natCast]
  rw [if_neg (fun q => h ⟨by omega, q.2.2⟩)]
theorem aut5 (t : Nat → Int) (n : Nat) : ∀ (f i : Nat), f = n - i → aut t n (n - i) 5 i = st4 t n (run t n (n - i) i : Nat) := by
  intro f
  induction f with
  | zero =>
    intro i hf
    rw [aut_end (by omega), run_stop (by omega), st4_nat (by omega)]; rfl
  | succ f ih =>
    intro i hf
    by_cases hd : 48 ≤ t i ∧ t i ≤ 57
    · rw [aut_go (s' := 5) (by omega) (by rw [step, if_pos hd]; rfl), run_go (by omega) hd, ih (i + 1) (by omega)]
    · rw [run_stop (fun q => hd q.2)]
      by_cases he : t i = 101 ∨ t i = 69
      · rw [aut_go (s' := 6) (by omega) (by rw [step, if_neg hd, if_pos he]; rfl), st4_at (by omega) he]
      · rw [aut_stop (by rw [step, if_neg hd, if_neg he]), st4_nat (fun q => he q.2)]; rfl
theorem aut4 (t : Nat → Int) (n i : Nat) : aut t n (n - i) 4 i = st4 t n (dEnd t n i) := by
  by_cases h : i < n
  · by_cases hd : 48 ≤ t i ∧ t i ≤ 57
    · rw [aut_go (s' := 5) h (by rw [step, if_pos hd]; rfl), dEnd_go h hd, aut5 t n _ _ rfl]
    · rw [aut_stop (by rw [step, if_neg hd]), dEnd_stop (fun q => hd q.2), st4_m1]; rfl
  · rw [aut_end h, dEnd_stop (by omega), st4_m1]; rfl
theorem st3_at {t : Nat → Int} {n i : Nat} (h : i < n) (he : t i = 46) : st3 t n (i : Int) = aut t n (n - (i + 1)) 4 (i + 1) := by
  rw [st3, aut4]
  simp only [Int.toNat_natCast]
  rw [if_pos ⟨by omega, by omega, he⟩]
theorem st3_nat {t : Nat → Int} {n i : Nat} (h : ¬ (i < n ∧ t i = 46)) : st3 t n (i : Int) = st4 t n (i : Int) := by
  rw [st3]
  simp only [Int.toNat_natCast]
  rw [if_neg (fun q => h ⟨by omega, q.2.2⟩)]
theorem aut3 (t : Nat → Int) (n : Nat) : ∀ (f i : Nat), f = n - i → aut t n (n - i) 3 i = st3 t n (run t n (n - i) i : Nat) := by
  intro f
  induction f with
  | zero =>
    intro i hf
    rw [aut_end (by omega), run_stop (by omega), st3_nat (by omega), st4_nat (by omega)]; rfl
  | succ f ih =>
    intro i hf
    by_cases hd : 48 ≤ t i ∧ t i ≤ 57
    · rw [aut_go (s' := 3) (by omega) (by rw [step, if_pos hd]; rfl), run_go (by omega) hd, ih (i + 1) (by omega)]
    · rw [run_stop (fun q => hd q.2)]
      by_cases hp : t i = 46
      · rw [aut_go (s' := 4) (by omega) (by rw [step, if_neg hd, if_pos hp]; rfl), st3_at (by omega) hp]
      · rw [st3_nat (fun q => hp q.2)]
        by_cases he : t i = 101 ∨ t i = 69
        · rw [aut_go (s' := 6) (by omega) (by rw [step, if_neg hd, if_neg hp, if_pos he]; rfl), st4_at (by omega) he]
        · rw [aut_stop (by rw [step, if_neg hd, if_neg hp, if_neg he]), st4_nat (fun q => he q.2)]; rfl
theorem aut2 (t : Nat → Int) (n i : Nat) : aut t n (n - i) 2 i = st3 t n (i : Int) := by
  by_cases h : i < n
  · by_cases hp : t i = 46
    · rw [aut_go (s' := 4) h (by rw [step, if_pos hp]; rfl), st3_at h hp]
    · rw [st3_nat (fun q => hp q.2)]
      by_cases he : t i = 101 ∨ t i = 69
      · rw [aut_go (s' := 6) h (by rw [step, if_neg hp, if_pos he]; rfl), st4_at h he]
      · rw [aut_stop (by rw [step, if_neg hp, if_neg he]), st4_nat (fun q => he q.2)]; rfl
  · rw [aut_end h, st3_nat (by omega), st4_nat (by omega)]; rfl
theorem aut1 (t : Nat → Int) (n i : Nat) (hi : i ≤ n) : aut t n (n - i) 1 i = st2 t n i := by
  rw [st2]
  by_cases h : i = n
  · rw [if_pos h, aut_end (by omega)]; rfl
  · rw [if_neg h]
    by_cases h0 : t i = 48
    · rw [if_pos h0, aut_go (s' := 2) (by omega) (by rw [step, if_pos h0]; rfl), aut2]
    · rw [if_neg h0]
      by_cases hd : 48 ≤ t i ∧ t i ≤ 57
      · rw [aut_go (s' := 3) (by omega) (by rw [step, if_neg h0, if_pos hd]; rfl), dEnd_go (by omega) hd, aut3 t n _ _ rfl]
      · rw [aut_stop (by rw [step, if_neg h0, if_neg hd]), dEnd_stop (fun q => hd q.2), st3_m1]; rfl
theorem aut0 (t : Nat → Int) (n a : Nat) (ha : a < n) : aut t n (n - a) 0 a = numEnd t n a := by
  rw [numEnd]
  by_cases h : t a = 45
  · rw [if_pos h, aut_go (s' := 1) ha (by rw [step, if_pos h]; rfl), aut1 t n _ (by omega)]
  · rw [if_neg h, ← aut1 t n a (by omega)]
    have e : step 0 (t a) = step 1 (t a) := by rw [step, step, if_neg h]
    rcases step_lt 1 (t a) with hs | hs
    · rw [aut_stop (e.trans hs), aut_stop hs]; rfl
    · have e2 : step 1 (t a) = ((step 1 (t a)).toNat : Nat) := by omega
      rw [aut_go ha (e.trans e2), aut_go ha e2]
end Go.Proofs.Qxb6605316a.Num
