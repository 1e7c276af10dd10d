/-
  THE WALKS of 'isBlank' (24), 'scalarStop' (27), 'stringEnd' (25).
-/
import Derived.Test.Qxb6605316aRows
import Derived.Test.Qxb6605316aSkipPlain
import Derived.WalkKit
import Derived.Deep.DeepCutAuto
import Derived.Deep.CutBlock
namespace Go.Proofs.Qxb6605316a.Skip
open Go.RowKit

theorem ret_bool {a b : Bool} (h : a = b) : Ending.returned (.bool a) = .returned (.bool b) := by rw [h]
theorem ret_int {k : IntKind} {a b : Int} (h : a = b) : Ending.returned (.int k a) = .returned (.int k b) := by rw [h]

theorem blank_any (c : Int) (w : World) : Calls Try.prog 24 #[.int .u8 c] w fun e w' => e = .returned (.bool (blankB c)) ∧ w' = w := by
  go_enter Try.func24, Try.ntmps24
  go_wp2
  all_goals
    go_ret
    refine ⟨ret_bool ?_, rfl⟩
    unfold blankB
    first
      | (rw [Bool.eq_iff_iff]; simp only [Bool.or_eq_true, beq_iff_eq, decide_eq_true_eq]; omega)
      | exact (decide_eq_true (by omega)).symm
theorem blank_is (c : Int) (b : Bool) (hb : blankB c = b) (w : World) : Calls Try.prog 24 #[.int .u8 c] w fun e w' => e = .returned (.bool b) ∧ w' = w := by
  subst hb; exact blank_any c w
theorem stop_any (c : Int) (w : World) : Calls Try.prog 27 #[.int .u8 c] w fun e w' => e = .returned (.bool (stopB c)) ∧ w' = w := by
  go_enter Try.func27, Try.ntmps27
  go_wp2_with (go_at_call 24; refine (blank_any c _).mono ?_; rintro e w' ⟨rfl, hw⟩; subst w')
  all_goals
    go_ret
    refine ⟨ret_bool ?_, rfl⟩
    unfold stopB
    first
      | exact (by rw [decide_eq_true (by omega)]; rfl)
      | (rw [decide_eq_false (by omega)]; simp [*])
theorem stop_is (c : Int) (b : Bool) (hb : stopB c = b) (w : World) : Calls Try.prog 27 #[.int .u8 c] w fun e w' => e = .returned (.bool b) ∧ w' = w := by
  subst hb; exact stop_any c w

/-- The backslashes that end at j, behind o. -/
def R (t : Nat → Int) (o j : Nat) : Nat := rn t o (j - o)
theorem R_le (t : Nat → Int) (o j : Nat) : R t o j ≤ j := by have := rn_le t o (j - o); unfold R; omega
theorem R_o (t : Nat → Int) (o : Nat) : R t o o = 0 := by unfold R; rw [Nat.sub_self]; rfl
theorem R_yes {t : Nat → Int} {o j : Nat} (h : o < j) (hb : t j = 92) : R t o j = R t o (j - 1) + 1 := by
  unfold R
  rw [show j - o = (j - 1 - o) + 1 by omega, rn, show o + 1 + (j - 1 - o) = j by omega, if_pos hb]
theorem R_no {t : Nat → Int} {o j : Nat} (h : o < j) (hb : ¬ t j = 92) : R t o j = 0 := by
  unfold R
  rw [show j - o = (j - 1 - o) + 1 by omega, rn, show o + 1 + (j - 1 - o) = j by omega, if_neg hb]
/-- The rest of stringEnd, from q on. -/
def SQ (t : Nat → Int) (n o q : Nat) : Int := SE t n o (q - (o + 1))
theorem SQ_hit {t : Nat → Int} {n o q : Nat} (ho : o < q) (h : q < n) (hq : t q = 34) (hr : R t o (q - 1) % 2 = 0) : SQ t n o q = (q : Int) + 1 := by
  have e : o + 1 + (q - (o + 1)) = q := by omega
  unfold SQ
  rw [SE_hit (by omega) (by rw [e]; exact hq) (by unfold R at hr; rw [show q - (o + 1) = q - 1 - o by omega]; exact hr)]
  omega
theorem SQ_miss {t : Nat → Int} {n o q : Nat} (ho : o < q) (h : q < n) (hq : ¬ (t q = 34 ∧ R t o (q - 1) % 2 = 0)) : SQ t n o q = SQ t n o (q + 1) := by
  have e : o + 1 + (q - (o + 1)) = q := by omega
  unfold SQ
  rw [SE_miss (by omega) (by rw [e, show q - (o + 1) = q - 1 - o by omega]; exact hq), show q - (o + 1) + 1 = q + 1 - (o + 1) by omega]
theorem SQ_end {t : Nat → Int} {n o q : Nat} (h : ¬ q < n) : SQ t n o q = -1 := by
  unfold SQ
  exact SE_end (by omega)
theorem SQ_start (t : Nat → Int) (n o : Nat) : SQ t n o (o + 1) = SK t n (o + 1) := by
  unfold SQ
  rw [Nat.sub_self]; exact stringEnd_eq t n o

set_option maxRecDepth 100000 in
set_option maxHeartbeats 1000000 in
/-- stringEnd over a row of n bytes. -/
theorem string_any (b off n c o : Nat) (t : Nat → Int) (w : World) (hn : n ≤ 1048576) (ho : o < n) (hc : ∀ k, k < n → w.cell? ⟨b, off + k, none⟩ = some (.int .u8 (t k))) :
    Calls Try.prog 25 #[.slice (some ⟨b, off, none⟩) n c, .int .i64 o] w fun e w' => e = .returned (.int .i64 (SK t n (o + 1))) ∧ w' = w := by
  go_enter Try.func25, Try.ntmps25
  go_wp2
  go_loop [5] (fun x => ∃ q : Nat, o < q ∧ q ≤ n ∧ x = .int .i64 q ∧ Hid (SQ t n o q = SK t n (o + 1))) (fun x => n - (intOf x).toNat)
  case atStart => exact ⟨o + 1, by omega, by omega, by go_num, SQ_start t n o⟩
  case round =>
    obtain ⟨q, h1, h2, rfl, H⟩ := hrel
    by_cases hq : q < n
    · have hcell := hc q hq
      by_cases h34 : t q = 34
      · have e34 : (t q != 34) = false := by simp [h34]
        have hRl := R_le t o (q - 1)
        have H34 : Hid (t q = 34) := h34
        clear h34
        go_wp2
        go_loop [6, 7] (fun x y => ∃ r j : Nat, r ≤ n ∧ o ≤ j ∧ j < q ∧ x = .int .i64 r ∧ y = .int .i64 j ∧ Hid (r + R t o j = R t o (q - 1))) (fun _ y => (intOf y).toNat - o)
        case atStart => exact ⟨0, q - 1, by omega, by omega, by omega, rfl, by go_num, Nat.zero_add _⟩
        case round =>
          obtain ⟨r, j, hr, hj1, hj2, rfl, rfl, HR⟩ := hrel
          by_cases hj : o < j
          · have hcj := hc j (by omega)
            by_cases h92 : t j = 92
            · have e92 : (t j == 92) = true := by simp [h92]
              have hr2 : r + 1 ≤ n := by have := HR.out; rw [R_yes hj h92] at this; omega
              have HR2 : Hid (r + 1 + R t o (j - 1) = R t o (q - 1)) := by have := HR.out; rw [R_yes hj h92] at this; show _ = _; omega
              clear h92 HR
              go_wp2
              go_round
              case rel => exact ⟨r + 1, j - 1, hr2, by omega, by omega, by go_num, by go_num, HR2⟩
              case measure => simp [intOf]; omega
            · have e92 : (t j == 92) = false := by simp [h92]
              have HR2 : Hid (r = R t o (q - 1)) := by have := HR.out; rw [R_no hj h92] at this; exact this
              clear h92 HR
              by_cases hp : r % 2 = 0
              · go_wp2
                go_ret
                exact ⟨ret_int (by rw [← H.out, SQ_hit h1 hq H34.out (by rw [← HR2.out]; exact hp)]), rfl⟩
              · go_wp2
                go_round
                case rel => exact ⟨q + 1, by omega, by omega, by go_num, (SQ_miss h1 hq (fun z => hp (by rw [HR2.out]; exact z.2))).symm.trans H.out⟩
                case measure => simp [intOf]; omega
          · have HR2 : Hid (r = R t o (q - 1)) := by have := HR.out; rw [show j = o by omega, R_o] at this; exact this
            clear HR
            by_cases hp : r % 2 = 0
            · go_wp2
              go_ret
              exact ⟨ret_int (by rw [← H.out, SQ_hit h1 hq H34.out (by rw [← HR2.out]; exact hp)]), rfl⟩
            · go_wp2
              go_round
              case rel => exact ⟨q + 1, by omega, by omega, by go_num, (SQ_miss h1 hq (fun z => hp (by rw [HR2.out]; exact z.2))).symm.trans H.out⟩
              case measure => simp [intOf]; omega
      · have e34 : (t q != 34) = true := by simp [h34]
        have H2 : Hid (SQ t n o (q + 1) = SK t n (o + 1)) := (SQ_miss h1 hq (fun z => h34 z.1)).symm.trans H.out
        clear h34 H
        go_wp2
        go_round
        case rel => exact ⟨q + 1, by omega, by omega, by go_num, H2⟩
        case measure => simp [intOf]; omega
    · have H2 : Hid (SK t n (o + 1) = -1) := H.out.symm.trans (SQ_end hq)
      clear H
      go_wp2
      go_ret
      exact ⟨ret_int H2.out.symm, rfl⟩
end Go.Proofs.Qxb6605316a.Skip
