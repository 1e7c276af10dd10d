/-
  THE WALK of 'FnIsSNNMatchesPublishedPattern' (3).
-/
import Derived.Test.Qxb6605316aSnnLaw
namespace Go.Proofs.Qxb6605316a.Snn
open Go.RowKit

theorem zzS_yes (s : ByteArray) (w : World) (h : s.size ≤ 1048576) :
    Calls Try.prog 7 #[.string s] w fun e w' => e = .returned (.bool true) ∧ w' = w := by
  go_enter Try.func7, Try.ntmps7
  go_wp2
  go_ret
  exact ⟨rfl, rfl⟩
theorem zzS_no (s : ByteArray) (w : World) (h : 1048576 < s.size) :
    Calls Try.prog 7 #[.string s] w fun e w' => e = .returned (.bool false) ∧ w' = w := by
  go_enter Try.func7, Try.ntmps7
  go_wp2
  go_ret
  exact ⟨rfl, rfl⟩

/-- isSNN at every string within the bound, and the pattern at it: one answer. -/
theorem both (s : ByteArray) : ∃ b : Bool, (∀ w, Calls Try.prog 18 #[.string s] w fun e w' => e = .returned (.bool b) ∧ Below w.heap.size w w') ∧
    (∀ w, Calls Try.prog 9 #[.string s] w fun e w' => e = .returned (.bool b) ∧ Below w.heap.size w w') := by
  by_cases h7 : s.size = 7
  · refine ⟨litB s 0 L7, fun w => ?_, fun w => pat7_any s w h7⟩
    rw [← seven_eq h7]
    cases e : s.toList == [53, 71, 58, 78, 83, 87, 79] with
    | true => exact is7_any s w e
    | false => exact isnot_any s w e (by rw [h7]; rfl) (by rw [h7]; rfl)
  · have e := not_seven h7
    by_cases h32 : s.size = 32
    · refine ⟨patB s, fun w => ?_, fun w => pat32_any s w h32⟩
      rw [← isB_patB]
      exact is32_any s w e h32
    · by_cases h44 : s.size = 44
      · refine ⟨patB s, fun w => ?_, fun w => pat44_any s w h44⟩
        rw [← isB_patB]
        exact is44_any s w e h44
      · have n7 : ((s.size : Int) == 7) = false := by rw [beq_eq_false_iff_ne]; omega
        have n32 : ((s.size : Int) != 32) = true := by rw [bne_iff_ne]; omega
        have n44 : ((s.size : Int) != 44) = true := by rw [bne_iff_ne]; omega
        exact ⟨false, fun w => isnot_any s w e n32 n44, fun w => patnot_any s w n7 n32 n44⟩

theorem zzis (s : ByteArray) (b : Bool) (hb : ∀ w, Calls Try.prog 18 #[.string s] w fun e w' => e = .returned (.bool b) ∧ Below w.heap.size w w') (w : World) :
    Calls Try.prog 8 #[.string s] w fun e w' => e = .returned (.bool b) ∧ Below w.heap.size w w' := by
  go_enter Try.func8, Try.ntmps8
  go_wp2_with (go_at_call 18; refine (hb _).mono ?_; rintro e w1 ⟨rfl, h1⟩)
  go_ret
  exact ⟨rfl, by assumption⟩

theorem law_big (s : ByteArray) (w : World) (h : 1048576 < s.size) :
    Calls Try.prog 3 #[.string s] w fun e w' => e = .returned (.bool true) ∧ Below w.heap.size w w' := by
  go_enter Try.func3, Try.ntmps3
  go_wp2_with (go_at_call 7; refine (zzS_no _ _ h).mono ?_; rintro e w' ⟨rfl, rfl⟩)
  go_ret
  exact ⟨rfl, Below.refl _ _⟩
theorem law_any (s : ByteArray) (w : World) (h : s.size ≤ 1048576) :
    Calls Try.prog 3 #[.string s] w fun e w' => e = .returned (.bool true) ∧ Below w.heap.size w w' := by
  obtain ⟨b, h1, h2⟩ := both s
  go_enter Try.func3, Try.ntmps3
  go_wp2_with (go_at_call 7; refine (zzS_yes _ _ h).mono ?_; rintro e w' ⟨rfl, hw⟩; subst w')
  refine (zzis s b h1 _).mono ?_
  rintro e w1 ⟨rfl, hb1⟩
  go_wp2_with fail
  refine (h2 _).mono ?_
  rintro e w2 ⟨rfl, hb2⟩
  go_wp2_with fail
  go_ret
  exact ⟨by simp, hb1.trans (hb2.mono hb1.size)⟩
end Go.Proofs.Qxb6605316a.Snn
