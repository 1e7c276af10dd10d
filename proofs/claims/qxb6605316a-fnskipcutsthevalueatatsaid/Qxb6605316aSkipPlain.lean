/-
  PLAIN: what 'skip', 'skipString', 'next' and the law's own 'stringEnd', 'boxEnd', 'valueSpan' compute over a text 't : Nat → Int' of 'n' bytes. No Go in sight.
-/
namespace Go.Proofs.Qxb6605316a.Skip

def blankB (c : Int) : Bool := decide (c = 32 ∨ c = 9 ∨ c = 10 ∨ c = 13)
def stopB (c : Int) : Bool := decide (c = 44 ∨ c = 125 ∨ c = 93) || blankB c

/-- The first offset from k on whose byte p refuses; at most f bytes on. -/
def adv (p : Int → Bool) (t : Nat → Int) (n : Nat) : Nat → Nat → Nat
  | 0, k => k
  | f + 1, k => if k < n ∧ p (t k) = true then adv p t n f (k + 1) else k

theorem adv_go {p : Int → Bool} {t : Nat → Int} {n k : Nat} (h : k < n) (hp : p (t k) = true) : adv p t n (n - k) k = adv p t n (n - (k + 1)) (k + 1) := by
  obtain ⟨f, hf⟩ : ∃ f, n - k = f + 1 := ⟨n - k - 1, by omega⟩
  rw [hf, adv, if_pos ⟨h, hp⟩, show n - (k + 1) = f by omega]
theorem adv_stop {p : Int → Bool} {t : Nat → Int} {n k : Nat} (hp : p (t k) = false) (f : Nat) : adv p t n f k = k := by
  cases f with
  | zero => rfl
  | succ f => rw [adv, if_neg (by rw [hp]; simp)]
theorem adv_end {p : Int → Bool} {t : Nat → Int} {n k : Nat} (h : ¬ k < n) (f : Nat) : adv p t n f k = k := by
  cases f with
  | zero => rfl
  | succ f => rw [adv, if_neg (by omega)]

/-- skipString, begun behind the opening quote: the offset just past the closing one; -1 where there is none. -/
def sk (t : Nat → Int) (n : Nat) : Nat → Nat → Int
  | 0, _ => -1
  | f + 1, k => if k < n then (if t k = 34 then ((k + 1 : Nat) : Int) else if t k = 92 then sk t n f (k + 2) else sk t n f (k + 1)) else -1
theorem sk_same {t : Nat → Int} {n : Nat} : ∀ f k f', n - k ≤ f → n - k ≤ f' → sk t n f k = sk t n f' k := by
  intro f
  induction f with
  | zero =>
    intro k f' h1 h2
    cases f' with
    | zero => rfl
    | succ f' => rw [sk, sk, if_neg (by omega)]
  | succ f ih =>
    intro k f' h1 h2
    cases f' with
    | zero => rw [sk, sk, if_neg (by omega)]
    | succ f' =>
      rw [sk, sk, ih (k + 2) f' (by omega) (by omega), ih (k + 1) f' (by omega) (by omega)]
/-- The end of the string whose opening quote lies at o. -/
def SK (t : Nat → Int) (n k : Nat) : Int := sk t n (n - k) k
theorem SK_quote {t : Nat → Int} {n k : Nat} (h : k < n) (hq : t k = 34) : SK t n k = ((k + 1 : Nat) : Int) := by
  unfold SK
  obtain ⟨f, hf⟩ : ∃ f, n - k = f + 1 := ⟨n - k - 1, by omega⟩
  rw [hf, sk, if_pos h, if_pos hq]
theorem SK_esc {t : Nat → Int} {n k : Nat} (h : k < n) (hq : t k = 92) : SK t n k = SK t n (k + 2) := by
  unfold SK
  obtain ⟨f, hf⟩ : ∃ f, n - k = f + 1 := ⟨n - k - 1, by omega⟩
  rw [hf, sk, if_pos h, if_neg (by omega), if_pos hq]
  exact sk_same _ _ _ (by omega) (by omega)
theorem SK_other {t : Nat → Int} {n k : Nat} (h : k < n) (hq : ¬ t k = 34) (hb : ¬ t k = 92) : SK t n k = SK t n (k + 1) := by
  unfold SK
  obtain ⟨f, hf⟩ : ∃ f, n - k = f + 1 := ⟨n - k - 1, by omega⟩
  rw [hf, sk, if_pos h, if_neg hq, if_neg hb]
  exact sk_same _ _ _ (by omega) (by omega)
theorem SK_end {t : Nat → Int} {n k : Nat} (h : ¬ k < n) : SK t n k = -1 := by
  unfold SK
  rw [show n - k = 0 by omega, sk]
theorem sk_bd {t : Nat → Int} {n : Nat} : ∀ f k, sk t n f k = -1 ∨ ((k : Int) < sk t n f k ∧ sk t n f k ≤ n) := by
  intro f
  induction f with
  | zero => intro k; left; rfl
  | succ f ih =>
    intro k
    rw [sk]
    have h1 := ih (k + 1)
    have h2 := ih (k + 2)
    split
    · split
      · right; omega
      · split <;> omega
    · left; rfl
theorem SK_bd (t : Nat → Int) (n k : Nat) : SK t n k = -1 ∨ ((k : Int) < SK t n k ∧ SK t n k ≤ n) := sk_bd _ _

/-- The backslashes right ahead of offset o + 1 + d, those behind o alone. -/
def rn (t : Nat → Int) (o : Nat) : Nat → Nat
  | 0 => 0
  | d + 1 => if t (o + 1 + d) = 92 then rn t o d + 1 else 0
theorem rn_le (t : Nat → Int) (o : Nat) : ∀ d, rn t o d ≤ d := by
  intro d
  induction d with
  | zero => exact Nat.le_refl _
  | succ d ih => rw [rn]; split <;> omega
/-- stringEnd's outer loop. -/
def se (t : Nat → Int) (n o : Nat) : Nat → Nat → Int
  | 0, _ => -1
  | f + 1, d => if o + 1 + d < n then (if t (o + 1 + d) = 34 ∧ rn t o d % 2 = 0 then ((o + 1 + d + 1 : Nat) : Int) else se t n o f (d + 1)) else -1
def SE (t : Nat → Int) (n o d : Nat) : Int := se t n o (n - (o + 1 + d)) d
theorem SE_hit {t : Nat → Int} {n o d : Nat} (h : o + 1 + d < n) (hq : t (o + 1 + d) = 34) (hr : rn t o d % 2 = 0) : SE t n o d = ((o + 1 + d + 1 : Nat) : Int) := by
  unfold SE
  obtain ⟨f, hf⟩ : ∃ f, n - (o + 1 + d) = f + 1 := ⟨n - (o + 1 + d) - 1, by omega⟩
  rw [hf, se, if_pos h, if_pos ⟨hq, hr⟩]
theorem SE_miss {t : Nat → Int} {n o d : Nat} (h : o + 1 + d < n) (hq : ¬ (t (o + 1 + d) = 34 ∧ rn t o d % 2 = 0)) : SE t n o d = SE t n o (d + 1) := by
  unfold SE
  obtain ⟨f, hf⟩ : ∃ f, n - (o + 1 + d) = f + 1 := ⟨n - (o + 1 + d) - 1, by omega⟩
  rw [hf, se, if_pos h, if_neg hq, show n - (o + 1 + (d + 1)) = f by omega]
theorem SE_end {t : Nat → Int} {n o d : Nat} (h : ¬ o + 1 + d < n) : SE t n o d = -1 := by
  unfold SE
  rw [show n - (o + 1 + d) = 0 by omega, se]
theorem SE_SK {t : Nat → Int} {n o : Nat} : ∀ m d, n - (o + 1 + d) ≤ m → rn t o d % 2 = 0 → SE t n o d = SK t n (o + 1 + d) := by
  intro m
  induction m using Nat.strongRecOn with
  | _ m ih =>
    intro d hm hr
    by_cases h : o + 1 + d < n
    · by_cases hq : t (o + 1 + d) = 34
      · rw [SE_hit h hq hr, SK_quote h hq]
      · rw [SE_miss h (fun q => hq q.1)]
        by_cases hb : t (o + 1 + d) = 92
        · have r1 : rn t o (d + 1) = rn t o d + 1 := by rw [rn, if_pos hb]
          have r2 : rn t o (d + 2) % 2 = 0 := by
            rw [rn]
            split
            · rw [r1]; omega
            · rfl
          have e : SE t n o (d + 1) = SE t n o (d + 2) := by
            by_cases h2 : o + 1 + (d + 1) < n
            · exact SE_miss h2 (fun q => by rw [r1] at q; omega)
            · rw [SE_end h2, SE_end (by omega)]
          rw [e, SK_esc h hb, show o + 1 + d + 2 = o + 1 + (d + 2) by omega]
          by_cases h3 : o + 1 + (d + 2) < n
          · exact ih (n - (o + 1 + (d + 2))) (by omega) (d + 2) (Nat.le_refl _) r2
          · rw [SE_end h3, SK_end h3]
        · have r1 : rn t o (d + 1) % 2 = 0 := by rw [rn, if_neg hb]
          rw [SK_other h hq hb, show o + 1 + d + 1 = o + 1 + (d + 1) by omega]
          by_cases h3 : o + 1 + (d + 1) < n
          · exact ih (n - (o + 1 + (d + 1))) (by omega) (d + 1) (Nat.le_refl _) r1
          · rw [SE_end h3, SK_end h3]
    · rw [SE_end h, SK_end h]
theorem stringEnd_eq (t : Nat → Int) (n o : Nat) : SE t n o 0 = SK t n (o + 1) := SE_SK _ 0 (Nat.le_refl _) rfl

/-- skip's loop over a box: the depth D, the offset j; at most g rounds. -/
def dp (t : Nat → Int) (n : Nat) : Nat → Nat → Nat → Int
  | 0, _, _ => -1
  | g + 1, D, j =>
    if j < n then
      (if t j = 34 then (if SK t n (j + 1) = -1 then -1 else dp t n g D (SK t n (j + 1)).toNat)
       else if t j = 123 ∨ t j = 91 then dp t n g (D + 1) (j + 1)
       else if t j = 125 ∨ t j = 93 then (if D = 1 then ((j + 1 : Nat) : Int) else dp t n g (D - 1) (j + 1))
       else dp t n g D (j + 1))
    else -1

/-- From j on, inside a box, the loop leaves that box at e. -/
def Box (t : Nat → Int) (n j e : Nat) : Prop := ∃ g, ∀ h D, dp t n (g + h) (D + 1) j = if D = 0 then (e : Int) else dp t n h D e

theorem dp_quote {t : Nat → Int} {n g D j e : Nat} (h : j < n) (hq : t j = 34) (he : SK t n (j + 1) = (e : Int)) : dp t n (g + 1) D j = dp t n g D e := by
  rw [dp, if_pos h, if_pos hq, if_neg (by omega), he]; rfl
theorem dp_open {t : Nat → Int} {n g D j : Nat} (h : j < n) (ho : t j = 123 ∨ t j = 91) : dp t n (g + 1) D j = dp t n g (D + 1) (j + 1) := by
  rw [dp, if_pos h, if_neg (by omega), if_pos ho]
theorem dp_close1 {t : Nat → Int} {n g j : Nat} (h : j < n) (hc : t j = 125 ∨ t j = 93) : dp t n (g + 1) 1 j = ((j + 1 : Nat) : Int) := by
  rw [dp, if_pos h, if_neg (by omega), if_neg (by omega), if_pos hc, if_pos rfl]
theorem dp_close {t : Nat → Int} {n g D j : Nat} (h : j < n) (hc : t j = 125 ∨ t j = 93) (hD : ¬ D = 1) : dp t n (g + 1) D j = dp t n g (D - 1) (j + 1) := by
  rw [dp, if_pos h, if_neg (by omega), if_neg (by omega), if_pos hc, if_neg hD]
theorem dp_other {t : Nat → Int} {n g D j : Nat} (h : j < n) (hq : ¬ t j = 34) (ho : ¬ (t j = 123 ∨ t j = 91)) (hc : ¬ (t j = 125 ∨ t j = 93)) : dp t n (g + 1) D j = dp t n g D (j + 1) := by
  rw [dp, if_pos h, if_neg hq, if_neg ho, if_neg hc]

theorem Box_close {t : Nat → Int} {n j : Nat} (h : j < n) (hc : t j = 125 ∨ t j = 93) : Box t n j (j + 1) := by
  refine ⟨1, fun h' D => ?_⟩
  rw [Nat.add_comm]
  by_cases hD : D = 0
  · subst hD; rw [dp_close1 h hc, if_pos rfl]
  · rw [dp_close h hc (by omega), if_neg hD, Nat.add_sub_cancel]
theorem Box_other {t : Nat → Int} {n j e : Nat} (h : j < n) (hq : ¬ t j = 34) (ho : ¬ (t j = 123 ∨ t j = 91)) (hc : ¬ (t j = 125 ∨ t j = 93)) (hB : Box t n (j + 1) e) : Box t n j e := by
  obtain ⟨g, hg⟩ := hB
  refine ⟨g + 1, fun h' D => ?_⟩
  rw [show g + 1 + h' = g + h' + 1 by omega, dp_other h hq ho hc, hg]
theorem Box_quote {t : Nat → Int} {n j e1 e : Nat} (h : j < n) (hq : t j = 34) (he : SK t n (j + 1) = (e1 : Int)) (hB : Box t n e1 e) : Box t n j e := by
  obtain ⟨g, hg⟩ := hB
  refine ⟨g + 1, fun h' D => ?_⟩
  rw [show g + 1 + h' = g + h' + 1 by omega, dp_quote h hq he, hg]
theorem Box_nest {t : Nat → Int} {n j e1 e : Nat} (h : j < n) (ho : t j = 123 ∨ t j = 91) (hB1 : Box t n (j + 1) e1) (hB : Box t n e1 e) : Box t n j e := by
  obtain ⟨g1, hg1⟩ := hB1
  obtain ⟨g, hg⟩ := hB
  refine ⟨g1 + g + 1, fun h' D => ?_⟩
  rw [show g1 + g + 1 + h' = g1 + (g + h') + 1 by omega, dp_open h ho, hg1, if_neg (by omega), hg]
/-- The whole box, from its opener on. -/
theorem Box_whole {t : Nat → Int} {n s e : Nat} (h : s < n) (ho : t s = 123 ∨ t s = 91) (hB : Box t n (s + 1) e) : ∃ g, dp t n g 0 s = (e : Int) := by
  obtain ⟨g, hg⟩ := hB
  refine ⟨g + 0 + 1, ?_⟩
  rw [dp_open h ho]
  exact (hg 0 0).trans (if_pos rfl)
/-- What one more round of the loop does, where it ends well. -/
theorem dp_some {t : Nat → Int} {n g D j e : Nat} (h : dp t n g D j = (e : Int)) : ∃ g', g = g' + 1 ∧ j < n := by
  cases g with
  | zero => rw [dp] at h; omega
  | succ g =>
    refine ⟨g, rfl, ?_⟩
    rw [dp] at h
    by_cases hj : j < n
    · exact hj
    · rw [if_neg hj] at h; omega
theorem dp_quote_some {t : Nat → Int} {n g D j e : Nat} (h : dp t n (g + 1) D j = (e : Int)) (hq : t j = 34) : ∃ e1 : Nat, SK t n (j + 1) = (e1 : Int) ∧ j + 1 < e1 ∧ e1 ≤ n ∧ dp t n g D e1 = (e : Int) := by
  obtain ⟨_, _, hj⟩ := dp_some h
  have hb := SK_bd t n (j + 1)
  by_cases hs : SK t n (j + 1) = -1
  · rw [dp, if_pos hj, if_pos hq, if_pos hs] at h; omega
  · refine ⟨(SK t n (j + 1)).toNat, by omega, by omega, by omega, ?_⟩
    rw [dp, if_pos hj, if_pos hq, if_neg hs] at h
    exact h
end Go.Proofs.Qxb6605316a.Skip
