/-
  'zzShiftedKeyLess' (6) and the law 'FnRankBeforeShiftedKey' (3).
-/
import Derived.Test.Qxb6605319aBefore
namespace Go.Proofs.Qxb6605319a.Rank
open Go.RowKit

theorem wrap_m1 : IntKind.u64.wrap (-1) = 18446744073709551615 := rfl

theorem less_any (rs rw os ow : Int) (h1 : Word rs) (h2 : Word os) (w : World) :
    Calls Try.prog 6 #[.int .u64 rs, .int .u64 rw, .int .u64 os, .int .u64 ow] w fun e w' => e = .returned (.bool (bef rs rw os ow)) ∧ w' = w := by
  obtain ⟨a1, a2⟩ := h1
  obtain ⟨b1, b2⟩ := h2
  by_cases a : rs = 0
  · subst a
    by_cases b : os = 0
    · subst b
      clear a1 a2 b1 b2
      go_enter Try.func6, Try.ntmps6
      go_wp2
      go_ret
      exact ⟨ret_bool (by simp [bef]), rfl⟩
    · have b3 : 1 ≤ os := by omega
      have f1 : (IntKind.u64.wrap (-1) != os - 1) = true := by rw [wrap_m1, bne_iff_ne]; omega
      have f2 : decide (IntKind.u64.wrap (-1) < os - 1) = false := by rw [wrap_m1]; exact decide_eq_false (by omega)
      have HB : Hid (false = bef 0 rw os ow) := by show false = _; simp [bef, b]
      clear a1 a2 b
      go_enter Try.func6, Try.ntmps6
      go_wp2
      go_ret
      exact ⟨ret_bool HB.out, rfl⟩
  · have a3 : 1 ≤ rs := by omega
    by_cases b : os = 0
    · subst b
      have f1 : (rs - 1 != IntKind.u64.wrap (-1)) = true := by rw [wrap_m1, bne_iff_ne]; omega
      have f2 : decide (rs - 1 < IntKind.u64.wrap (-1)) = true := by rw [wrap_m1]; exact decide_eq_true (by omega)
      have HB : Hid (true = bef rs rw 0 ow) := by show true = _; simp [bef, a]
      clear b1 b2 a
      go_enter Try.func6, Try.ntmps6
      go_wp2
      go_ret
      exact ⟨ret_bool HB.out, rfl⟩
    · have b3 : 1 ≤ os := by omega
      by_cases c : rs = os
      · subst c
        have f1 : (rs - 1 != rs - 1) = false := by simp
        have HB : Hid (decide (rw < ow) = bef rs rw rs ow) := by show _ = _; simp [bef, a]
        clear a b
        go_enter Try.func6, Try.ntmps6
        go_wp2
        go_ret
        exact ⟨ret_bool HB.out, rfl⟩
      · have f1 : (rs - 1 != os - 1) = true := by rw [bne_iff_ne]; omega
        have HB : Hid (decide (rs < os) = bef rs rw os ow) := by
          show _ = _
          simp only [bef, if_neg a, if_neg b, if_neg c]
        clear a b c
        go_enter Try.func6, Try.ntmps6
        go_wp2
        go_ret
        exact ⟨ret_bool HB.out, rfl⟩
theorem less_is (rs rw os ow : Int) (h1 : Word rs) (h2 : Word os) (b : Bool) (hb : bef rs rw os ow = b) (w : World) :
    Calls Try.prog 6 #[.int .u64 rs, .int .u64 rw, .int .u64 os, .int .u64 ow] w fun e w' => e = .returned (.bool b) ∧ w' = w := by
  subst hb; exact less_any rs rw os ow h1 h2 w

theorem law_keys (rs rw os ow : Int) (h1 : Word rs) (h2 : Word os) (w : World) :
    Calls Try.prog 3 #[.int .u64 rs, .int .u64 rw, .int .u64 os, .int .u64 ow] w fun e w' => e = .returned (.bool true) ∧ Grown w w' := by
  obtain ⟨b, hb⟩ : ∃ b, bef rs rw os ow = b := ⟨_, rfl⟩
  have HB : Hid (bef rs rw os ow = b) := hb
  have H1 : Hid (Word rs) := h1
  have H2 : Hid (Word os) := h2
  clear hb h1 h2
  go_enter Try.func3, Try.ntmps3
  go_wp2_with (first
    | (go_at_call 5; refine (zz_is rs rw os ow b HB.out _).mono ?_; rintro e w' ⟨rfl, c1, c2, rfl⟩)
    | (go_at_call 6; refine (less_is rs rw os ow H1.out H2.out b HB.out _).mono ?_; rintro e w' ⟨rfl, rfl⟩))
  go_ret
  exact ⟨by simp, by repeat (first | exact Grown.refl _ | apply Grown.drew | apply Grown.alloc)⟩
end Go.Proofs.Qxb6605319a.Rank
