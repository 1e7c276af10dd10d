/-
  THE WALK of 'valueSpan' (16).
-/
import Derived.Test.Qxb6605316aSkipBox
namespace Go.Proofs.Qxb6605316a.Skip
open Go.RowKit

/-- No stop: what a scalar's loop passes. -/
def goesB (c : Int) : Bool := !stopB c
/-- The value at s ends at e. -/
def Val (t : Nat → Int) (n s e : Nat) : Prop :=
  (s = n ∧ e = n) ∨ (s < n ∧ t s = 34 ∧ SK t n (s + 1) = (e : Int)) ∨ (s < n ∧ (t s = 123 ∨ t s = 91) ∧ Box t n (s + 1) e) ∨
  (s < n ∧ ¬ t s = 34 ∧ ¬ (t s = 123 ∨ t s = 91) ∧ e = adv goesB t n (n - s) s)
def SpanR (t : Nat → Int) (n s : Nat) (r : Int) : Prop := r = -1 ∨ ∃ e : Nat, r = (e : Int) ∧ s ≤ e ∧ e ≤ n ∧ Val t n s e

theorem adv_ge (p : Int → Bool) (t : Nat → Int) (n : Nat) : ∀ f k, k ≤ adv p t n f k := by
  intro f
  induction f with
  | zero => intro k; exact Nat.le_refl _
  | succ f ih =>
    intro k
    rw [adv]
    split
    · have := ih (k + 1); omega
    · exact Nat.le_refl _
theorem adv_le (p : Int → Bool) (t : Nat → Int) (n : Nat) : ∀ f k, k ≤ n → adv p t n f k ≤ n := by
  intro f
  induction f with
  | zero => intro k h; exact h
  | succ f ih =>
    intro k h
    rw [adv]
    split
    · exact ih (k + 1) (by omega)
    · exact h
theorem goes_yes {c : Int} (h : stopB c = false) : goesB c = true := by unfold goesB; rw [h]; rfl
theorem goes_no {c : Int} (h : stopB c = true) : goesB c = false := by unfold goesB; rw [h]; rfl

theorem span_zero (a : Option Addr) (c : Nat) (w : World) :
    Calls Try.prog 16 #[.slice a 0 c, .int .i64 0] w fun e w' => e = .returned (.tuple #[.int .i64 0, .int .i64 0]) ∧ w' = w := by
  go_enter Try.func16, Try.ntmps16
  go_wp2_with fail
  refine wp_loop_rounds 1 ?_
  rw [rounds_succ]
  go_wp2_with fail
  go_ret2
  exact ⟨rfl, rfl⟩

set_option maxRecDepth 100000 in
set_option maxHeartbeats 2000000 in
theorem span_any (b off n c a : Nat) (t : Nat → Int) (w : World) (hn : n ≤ 1048576) (ha : a ≤ n) (hc : ∀ k, k < n → w.cell? ⟨b, off + k, none⟩ = some (.int .u8 (t k))) (S : Nat) (hS : Hid (adv blankB t n (n - a) a = S)) (hSn : S ≤ n) :
    Calls Try.prog 16 #[.slice (some ⟨b, off, none⟩) n c, .int .i64 a] w fun e w' => ∃ r : Int, e = .returned (.tuple #[.int .i64 S, .int .i64 r]) ∧ SpanR t n S r ∧ w' = w := by
  go_enter Try.func16, Try.ntmps16
  go_upto_block 0 with fail
  go_cut [6] (fun x wx => w = wx ∧ x = .int .i64 S)
  case first =>
    go_wp2_with fail
    go_loopg [6] (n - a) (fun g x wx => w = wx ∧ ∃ k : Nat, k ≤ n ∧ g = n - k ∧ x = .int .i64 k ∧ Hid (adv blankB t n (n - k) k = S))
    case atStart => exact ⟨rfl, a, ha, rfl, rfl, hS⟩
    case round =>
      obtain ⟨rfl, k, hk, rfl, rfl, H⟩ := hrel
      by_cases hlt : k < n
      · have hcell := hc k hlt
        cases hb : blankB (t k) with
        | true =>
          have HB : Hid (blankB (t k) = true) := hb
          clear hb
          go_wp2_with (go_at_call 24; refine (blank_is _ _ HB.out _).mono ?_; rintro e w' ⟨rfl, hw⟩; subst w')
          go_roundg (n - (k + 1))
          case rel => exact ⟨rfl, k + 1, by omega, rfl, by go_num, (adv_go hlt HB.out).symm.trans H.out⟩
          case measure => omega
        | false =>
          have HB : Hid (blankB (t k) = false) := hb
          clear hb
          go_wp2_with (go_at_call 24; refine (blank_is _ _ HB.out _).mono ?_; rintro e w' ⟨rfl, hw⟩; subst w')
          go_meet
          case rel =>
            obtain rfl : k = S := (adv_stop HB.out _).symm.trans H.out
            exact ⟨rfl, rfl⟩
      · go_wp2_with fail
        go_meet
        case rel =>
          obtain rfl : k = S := (adv_end hlt _).symm.trans H.out
          exact ⟨rfl, rfl⟩
  case rest =>
    obtain ⟨rfl, rfl⟩ := hcut
    clear hS
    by_cases hlt : S < n
    · have hcell := hc S hlt
      have eSn : ((S : Int) == (n : Int)) = false := by rw [beq_eq_false_iff_ne]; omega
      by_cases h34 : t S = 34
      · have e34 : (t S == 34) = true := by simp [h34]
        have hb := SK_bd t n (S + 1)
        have H34 : Hid (t S = 34) := h34
        clear h34
        obtain ⟨r, hr⟩ : ∃ r, SK t n (S + 1) = r := ⟨_, rfl⟩
        rw [hr] at hb
        have HR : Hid (SK t n (S + 1) = r) := hr
        clear hr
        go_wp2_with (go_at_call 25; refine (string_is b off n c S t r HR.out _ hn hlt hc).mono ?_; rintro e w' ⟨rfl, hw⟩; subst w')
        go_ret2
        refine ⟨r, rfl, ?_, rfl⟩
        by_cases e : r = -1
        · exact .inl e
        · exact .inr ⟨r.toNat, by omega, by omega, by omega, .inr (.inl ⟨hlt, H34.out, by rw [HR.out]; omega⟩)⟩
      · have e34 : (t S == 34) = false := by simp [h34]
        have H34 : Hid (¬ t S = 34) := h34
        clear h34
        by_cases ho2 : t S = 123 ∨ t S = 91
        · have HO : Hid (t S = 123 ∨ t S = 91) := ho2
          have eo : (t S == 123) = true ∨ ((t S == 123) = false ∧ (t S == 91) = true) := by
            rcases ho2 with h | h
            · left; simp [h]
            · right; simp [h]
          clear ho2
          rcases eo with eo | ⟨eo, eo2⟩
          all_goals
            go_wp2_with fail
            refine (box_any b off n c t hn (n - S) S _ hlt (Nat.le_refl _) hc).mono ?_
            rintro e w' ⟨r, rfl, hr, hw⟩
            subst w'
            have HR : Hid (BoxR t n S r) := hr
            clear hr
            go_wp2_with fail
            go_ret2
            refine ⟨r, rfl, ?_, rfl⟩
            rcases HR.out with e | ⟨e1, e, l1, l2, hB⟩
            · exact .inl e
            · exact .inr ⟨e1, e, by omega, l2, .inr (.inr (.inl ⟨hlt, HO.out, hB⟩))⟩
        · have HO : Hid (¬ (t S = 123 ∨ t S = 91)) := ho2
          have eo1 : (t S == 123) = false := by simp; omega
          have eo2 : (t S == 91) = false := by simp; omega
          clear ho2
          obtain ⟨E, hE⟩ : ∃ E, adv goesB t n (n - S) S = E := ⟨_, rfl⟩
          have hE1 : S ≤ E := by rw [← hE]; exact adv_ge _ _ _ _ _
          have hE2 : E ≤ n := by rw [← hE]; exact adv_le _ _ _ _ _ hSn
          have HE : Hid (adv goesB t n (n - S) S = E) := hE
          clear hE
          have done : SpanR t n S (E : Int) := .inr ⟨E, rfl, hE1, hE2, .inr (.inr (.inr ⟨hlt, H34.out, HO.out, HE.out.symm⟩))⟩
          have HD : Hid (SpanR t n S (E : Int)) := done
          clear done
          go_wp2_with fail
          go_loopg [7] (n - S) (fun g x wx => w = wx ∧ ∃ k : Nat, k ≤ n ∧ g = n - k ∧ x = .int .i64 k ∧ Hid (adv goesB t n (n - k) k = E))
          case atStart => exact ⟨rfl, S, hSn, rfl, rfl, HE⟩
          case round =>
            obtain ⟨rfl, k, hk, rfl, rfl, H⟩ := hrel
            by_cases hlt2 : k < n
            · have hcell2 := hc k hlt2
              cases hb : stopB (t k) with
              | true =>
                have HB : Hid (stopB (t k) = true) := hb
                clear hb
                obtain rfl : k = E := (adv_stop (goes_no HB.out) _).symm.trans H.out
                go_wp2_with (go_at_call 27; refine (stop_is _ _ HB.out _).mono ?_; rintro e w' ⟨rfl, hw⟩; subst w')
                go_ret2
                exact ⟨_, rfl, HD.out, rfl⟩
              | false =>
                have HB : Hid (stopB (t k) = false) := hb
                clear hb
                go_wp2_with (go_at_call 27; refine (stop_is _ _ HB.out _).mono ?_; rintro e w' ⟨rfl, hw⟩; subst w')
                go_roundg (n - (k + 1))
                case rel => exact ⟨rfl, k + 1, by omega, rfl, by go_num, (adv_go hlt2 (goes_yes HB.out)).symm.trans H.out⟩
                case measure => omega
            · obtain rfl : k = E := (adv_end hlt2 _).symm.trans H.out
              go_wp2_with fail
              go_ret2
              exact ⟨_, rfl, HD.out, rfl⟩
    · obtain rfl : S = n := by omega
      go_wp2_with fail
      go_ret2
      exact ⟨_, rfl, .inr ⟨S, rfl, Nat.le_refl _, Nat.le_refl _, .inl ⟨rfl, rfl⟩⟩, rfl⟩
end Go.Proofs.Qxb6605316a.Skip
