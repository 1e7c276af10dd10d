/-
  'rank.before' (7), 'ZZRankBefore' (5), 'zzShiftedKeyLess' (6): the walks, and the plain laws.
-/
import Derived.Test.Qxb6605319aRows
import Derived.WalkKit
namespace Go.Proofs.Qxb6605319a.Rank
open Go.RowKit

/-- rank.before: the settled places ahead of 'not settled' (0), then by settled, then by wanted. -/
def bef (rs rw os ow : Int) : Bool :=
  if rs = 0 then (if os = 0 then decide (rw < ow) else false)
  else if os = 0 then true else if rs = os then decide (rw < ow) else decide (rs < os)

theorem ret_bool {a b : Bool} (h : a = b) : Ending.returned (.bool a) = .returned (.bool b) := by rw [h]

theorem before_any (rs rw os ow : Int) (w : World) :
    Calls Try.prog 7 #[.agg #[.int .u64 rs, .int .u64 rw], .agg #[.int .u64 os, .int .u64 ow]] w fun e w' =>
      e = .returned (.bool (bef rs rw os ow)) ∧ ∃ c1 c2 : Array Value, w' = (w.alloc (.cells c1 26)).alloc (.cells c2 26) := by
  by_cases h1 : rs = 0
  · subst h1
    by_cases h2 : os = 0
    · subst h2
      go_enter Try.func7, Try.ntmps7
      go_wp2
      go_ret
      exact ⟨ret_bool (by simp [bef]), _, _, rfl⟩
    · have e2 : (os == 0) = false := by simp [h2]
      go_enter Try.func7, Try.ntmps7
      go_wp2
      go_ret
      exact ⟨ret_bool (by simp [bef, h2]), _, _, rfl⟩
  · have e1 : (rs == 0) = false := by simp [h1]
    have e1' : (rs != 0) = true := by simp [h1]
    by_cases h2 : os = 0
    · subst h2
      go_enter Try.func7, Try.ntmps7
      go_wp2
      go_ret
      exact ⟨ret_bool (by simp [bef, h1]), _, _, rfl⟩
    · have e2 : (os == 0) = false := by simp [h2]
      by_cases h3 : rs = os
      · subst h3
        have e3 : (rs != rs) = false := by simp
        go_enter Try.func7, Try.ntmps7
        go_wp2
        go_ret
        exact ⟨ret_bool (by simp [bef, h1]), _, _, rfl⟩
      · have e3 : (rs != os) = true := by simp [h3]
        go_enter Try.func7, Try.ntmps7
        go_wp2
        go_ret
        exact ⟨ret_bool (by simp [bef, h1, h2, h3]), _, _, rfl⟩

theorem zz_is (rs rw os ow : Int) (b : Bool) (hb : bef rs rw os ow = b) (w : World) :
    Calls Try.prog 5 #[.int .u64 rs, .int .u64 rw, .int .u64 os, .int .u64 ow] w fun e w' =>
      e = .returned (.bool b) ∧ ∃ c1 c2 : Array Value, w' = (w.alloc (.cells c1 26)).alloc (.cells c2 26) := by
  subst hb
  go_enter Try.func5, Try.ntmps5
  go_wp2_with (go_at_call 7; refine (before_any rs rw os ow _).mono ?_; rintro e w' ⟨rfl, c1, c2, rfl⟩)
  go_ret
  exact ⟨rfl, _, _, rfl⟩

/-- A uint64. -/
def Word (x : Int) : Prop := 0 ≤ x ∧ x < 18446744073709551616
/-! ### THE ORDER's LAWS -/
theorem bef_irrefl (s x : Int) : bef s x s x = false := by
  unfold bef; by_cases a : s = 0 <;> simp [a]
theorem bef_one {s x s' x' : Int} (h : ¬ (s = s' ∧ x = x')) : bef s x s' x' = !(bef s' x' s x) := by
  unfold bef
  by_cases a : s = 0
  · by_cases b : s' = 0
    · rw [if_pos a, if_pos b, if_pos b, if_pos a]
      rw [Bool.eq_iff_iff]; simp; omega
    · rw [if_pos a, if_neg b, if_neg b, if_pos a]; rfl
  · by_cases b : s' = 0
    · rw [if_neg a, if_pos b, if_pos b, if_neg a]; rfl
    · rw [if_neg a, if_neg b, if_neg b, if_neg a]
      by_cases c : s = s'
      · rw [if_pos c, if_pos c.symm, Bool.eq_iff_iff]; simp; omega
      · rw [if_neg c, if_neg (fun q => c q.symm), Bool.eq_iff_iff]; simp; omega
theorem bef_trans {s x s' x' s'' x'' : Int} (h1 : bef s x s' x' = true) (h2 : bef s' x' s'' x'' = true) : bef s x s'' x'' = true := by
  unfold bef at *
  by_cases a : s = 0
  · by_cases b : s' = 0
    · by_cases c : s'' = 0
      · rw [if_pos a, if_pos b] at h1
        rw [if_pos b, if_pos c] at h2
        rw [if_pos a, if_pos c]
        simp only [decide_eq_true_eq] at *; omega
      · rw [if_pos b, if_neg c] at h2; cases h2
    · rw [if_pos a, if_neg b] at h1; cases h1
  · by_cases c : s'' = 0
    · rw [if_neg a, if_pos c]
    · by_cases b : s' = 0
      · rw [if_pos b, if_neg c] at h2; cases h2
      · rw [if_neg a, if_neg b] at h1
        rw [if_neg b, if_neg c] at h2
        rw [if_neg a, if_neg c]
        by_cases d : s = s'
        · rw [if_pos d] at h1
          by_cases e : s' = s''
          · rw [if_pos e] at h2
            rw [if_pos (by omega)]
            simp only [decide_eq_true_eq] at *; omega
          · rw [if_neg e] at h2
            rw [if_neg (by omega)]
            simp only [decide_eq_true_eq] at *; omega
        · rw [if_neg d] at h1
          by_cases e : s' = s''
          · rw [if_pos e] at h2
            rw [if_neg (by omega)]
            simp only [decide_eq_true_eq] at *; omega
          · rw [if_neg e] at h2
            simp only [decide_eq_true_eq] at h1 h2
            rw [if_neg (by omega)]
            simp only [decide_eq_true_eq]; omega
end Go.Proofs.Qxb6605319a.Rank
