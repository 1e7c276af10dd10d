/-
  THE WALK of 'boxEnd' (26), which calls itself.
-/
import Derived.Test.Qxb6605316aSkipStr
namespace Go.Proofs.Qxb6605316a.Skip
open Go.RowKit

theorem string_is (b off n c o : Nat) (t : Nat → Int) (r : Int) (hr : SK t n (o + 1) = r) (w : World) (hn : n ≤ 1048576) (ho : o < n) (hc : ∀ k, k < n → w.cell? ⟨b, off + k, none⟩ = some (.int .u8 (t k))) :
    Calls Try.prog 25 #[.slice (some ⟨b, off, none⟩) n c, .int .i64 o] w fun e w' => e = .returned (.int .i64 r) ∧ w' = w := by
  subst hr; exact string_any b off n c o t w hn ho hc

/-- What boxEnd's answer r says. -/
def BoxR (t : Nat → Int) (n o : Nat) (r : Int) : Prop := r = -1 ∨ ∃ e : Nat, r = (e : Int) ∧ o + 1 < e ∧ e ≤ n ∧ Box t n (o + 1) e

set_option maxRecDepth 100000 in
set_option maxHeartbeats 2000000 in
/-- boxEnd over a row of n bytes. -/
theorem box_any (b off n c : Nat) (t : Nat → Int) (hn : n ≤ 1048576) : ∀ (m o : Nat) (w : World), o < n → n - o ≤ m → (∀ k, k < n → w.cell? ⟨b, off + k, none⟩ = some (.int .u8 (t k))) →
    Calls Try.prog 26 #[.slice (some ⟨b, off, none⟩) n c, .int .i64 o] w fun e w' => ∃ r : Int, e = .returned (.int .i64 r) ∧ BoxR t n o r ∧ w' = w := by
  intro m
  induction m with
  | zero => intro o w ho hm; omega
  | succ m ih =>
    intro o w ho hm hc
    have IH : Hid _ := ih
    clear ih
    go_enter Try.func26, Try.ntmps26
    go_wp2_with fail
    go_loop [5] (fun x => ∃ j : Nat, o < j ∧ j ≤ n ∧ x = .int .i64 j ∧ Hid (∀ e, Box t n j e → Box t n (o + 1) e)) (fun x => n - (intOf x).toNat)
    case atStart => exact ⟨o + 1, by omega, by omega, by go_num, fun _ h => h⟩
    case round =>
      obtain ⟨j, h1, h2, rfl, H⟩ := hrel
      by_cases hj : j < n
      · have hcell := hc j hj
        by_cases h34 : t j = 34
        · have e34 : (t j == 34) = true := by simp [h34]
          have hb := SK_bd t n (j + 1)
          have H34 : Hid (t j = 34) := h34
          clear h34
          by_cases hs : SK t n (j + 1) = -1
          · have HS : Hid (SK t n (j + 1) = -1) := hs
            clear hs hb
            go_wp2_with (go_at_call 25; refine (string_is b off n c j t (-1) HS.out _ hn hj hc).mono ?_; rintro e w' ⟨rfl, hw⟩; subst w')
            go_ret
            exact ⟨_, rfl, .inl rfl, rfl⟩
          · obtain ⟨e1, he1⟩ : ∃ e1 : Nat, SK t n (j + 1) = (e1 : Int) := ⟨(SK t n (j + 1)).toNat, by omega⟩
            have l1 : j + 1 < e1 := by omega
            have l2 : e1 ≤ n := by omega
            have HS : Hid (SK t n (j + 1) = (e1 : Int)) := he1
            clear hs hb he1
            go_wp2_with (go_at_call 25; refine (string_is b off n c j t e1 HS.out _ hn hj hc).mono ?_; rintro e w' ⟨rfl, hw⟩; subst w')
            go_round
            case rel => exact ⟨e1, by omega, l2, rfl, fun e hB => H.out e (Box_quote hj H34.out HS.out hB)⟩
            case measure => simp [intOf]; omega
        · have e34 : (t j == 34) = false := by simp [h34]
          have H34 : Hid (¬ t j = 34) := h34
          clear h34
          by_cases ho2 : t j = 123 ∨ t j = 91
          · have HO : Hid (t j = 123 ∨ t j = 91) := ho2
            have eo : (t j == 123) = true ∨ ((t j == 123) = false ∧ (t j == 91) = true) := by
              rcases ho2 with h | h
              · left; simp [h]
              · right; simp [h]
            clear ho2
            rcases eo with eo | ⟨eo, eo2⟩
            all_goals
              go_wp2_with fail
              refine (IH.out j _ hj (by omega) hc).mono ?_
              rintro e w' ⟨r, rfl, hr, hw⟩
              subst w'
              rcases hr with rfl | ⟨e1, rfl, l1, l2, hB1⟩
              · go_wp2_with fail
                go_ret
                exact ⟨_, rfl, .inl rfl, rfl⟩
              · have HB1 : Hid (Box t n (j + 1) e1) := hB1
                clear hB1
                go_wp2_with fail
                go_round
                case rel => exact ⟨e1, by omega, l2, rfl, fun e hB => H.out e (Box_nest hj HO.out HB1.out hB)⟩
                case measure => simp [intOf]; omega
          · have HO : Hid (¬ (t j = 123 ∨ t j = 91)) := ho2
            have eo1 : (t j == 123) = false := by simp; omega
            have eo2 : (t j == 91) = false := by simp; omega
            clear ho2
            by_cases hc2 : t j = 125 ∨ t j = 93
            · have HC : Hid (t j = 125 ∨ t j = 93) := hc2
              have ec : (t j == 125) = true ∨ ((t j == 125) = false ∧ (t j == 93) = true) := by
                rcases hc2 with h | h
                · left; simp [h]
                · right; simp [h]
              clear hc2
              rcases ec with ec | ⟨ec, ec2⟩
              all_goals
                go_wp2_with fail
                go_ret
                exact ⟨_, rfl, .inr ⟨j + 1, by omega, by omega, by omega, H.out _ (Box_close hj HC.out)⟩, rfl⟩
            · have HC : Hid (¬ (t j = 125 ∨ t j = 93)) := hc2
              have ec1 : (t j == 125) = false := by simp; omega
              have ec2 : (t j == 93) = false := by simp; omega
              clear hc2
              go_wp2_with fail
              go_round
              case rel => exact ⟨j + 1, by omega, by omega, by go_num, fun e hB => H.out e (Box_other hj H34.out HO.out HC.out hB)⟩
              case measure => simp [intOf]; omega
      · go_wp2_with fail
        go_ret
        exact ⟨_, rfl, .inl rfl, rfl⟩
end Go.Proofs.Qxb6605316a.Skip
