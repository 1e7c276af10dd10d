/-
  THE WALK of 'numberEnd' (22).
-/
import Derived.Test.Qxb6605316aNumDigits
import Derived.Deep.DeepCutAuto
import Derived.Deep.CutBlock
namespace Go.Proofs.Qxb6605316a.Num
open Go.RowKit

theorem numEnd_yes {t : Nat → Int} {n a : Nat} (h : (t a == 45) = true) : st2 t n (a + 1) = numEnd t n a := by
  rw [numEnd, if_pos (eq_of_beq h)]
theorem numEnd_no {t : Nat → Int} {n a : Nat} (h : (t a == 45) = false) : st2 t n a = numEnd t n a := by
  rw [numEnd, if_neg (ne_of_beq_false h)]
theorem st2_end {t : Nat → Int} {n : Nat} : st2 t n n = -1 := by
  rw [st2, if_pos rfl]
theorem st2_zero {t : Nat → Int} {n a : Nat} (h : a < n) (h0 : (t a == 48) = true) : st2 t n a = st3 t n ((a : Int) + 1) := by
  rw [st2, if_neg (by omega), if_pos (eq_of_beq h0)]; rfl
theorem st2_dig {t : Nat → Int} {n a : Nat} (h : a < n) (h0 : (t a == 48) = false) : st2 t n a = st3 t n (dEnd t n a) := by
  rw [st2, if_neg (by omega), if_neg (ne_of_beq_false h0)]
theorem st3_neg {t : Nat → Int} {n : Nat} : st3 t n (-1) = st4 t n (-1) := by
  rw [st3, if_neg (by omega)]
theorem st3_end {t : Nat → Int} {n m : Nat} (h : ¬ m < n) : st3 t n (m : Int) = st4 t n (m : Int) := by
  rw [st3, if_neg (by omega)]
theorem st3_dot {t : Nat → Int} {n m : Nat} (h : m < n) (h0 : (t m == 46) = true) : st3 t n (m : Int) = st4 t n (dEnd t n (m + 1)) := by
  rw [st3, if_pos ⟨by omega, by omega, eq_of_beq h0⟩]; rfl
theorem st3_no {t : Nat → Int} {n m : Nat} (h0 : (t m == 46) = false) : st3 t n (m : Int) = st4 t n (m : Int) := by
  rw [st3, if_neg]
  rintro ⟨_, _, h⟩
  exact ne_of_beq_false h0 h
theorem st4_neg {t : Nat → Int} {n : Nat} : st4 t n (-1) = -1 := by
  rw [st4, if_neg (by omega)]
theorem st4_end {t : Nat → Int} {n m : Nat} (h : ¬ m < n) : st4 t n (m : Int) = (m : Int) := by
  rw [st4, if_neg (by omega)]
theorem st4_no {t : Nat → Int} {n m : Nat} (h0 : (t m == 101) = false) (h1 : (t m == 69) = false) : st4 t n (m : Int) = (m : Int) := by
  rw [st4, if_neg]
  rintro ⟨_, _, h | h⟩
  · exact ne_of_beq_false h0 h
  · exact ne_of_beq_false h1 h
/-- What stands behind the 'e'. -/
def exE (t : Nat → Int) (n m : Nat) : Int := if m + 1 < n ∧ (t (m + 1) = 43 ∨ t (m + 1) = 45) then dEnd t n (m + 2) else dEnd t n (m + 1)
theorem st4_e {t : Nat → Int} {n m : Nat} (h : m < n) (h0 : (t m == 101) = true ∨ (t m == 69) = true) : st4 t n (m : Int) = exE t n m := by
  rw [st4, if_pos ⟨by omega, by omega, by rcases h0 with h0 | h0; exact .inl (eq_of_beq h0); exact .inr (eq_of_beq h0)⟩]; rfl
theorem exE_end {t : Nat → Int} {n m : Nat} (h : ¬ m + 1 < n) : exE t n m = dEnd t n (m + 1) := by
  rw [exE, if_neg (by omega)]
theorem exE_sign {t : Nat → Int} {n m : Nat} (h : m + 1 < n) (h0 : (t (m + 1) == 43) = true ∨ (t (m + 1) == 45) = true) : exE t n m = dEnd t n (m + 2) := by
  rw [exE, if_pos ⟨by omega, by rcases h0 with h0 | h0; exact .inl (eq_of_beq h0); exact .inr (eq_of_beq h0)⟩]
theorem exE_no {t : Nat → Int} {n m : Nat} (h0 : (t (m + 1) == 43) = false) (h1 : (t (m + 1) == 45) = false) : exE t n m = dEnd t n (m + 1) := by
  rw [exE, if_neg]
  rintro ⟨_, h | h⟩
  · exact ne_of_beq_false h0 h
  · exact ne_of_beq_false h1 h
theorem dEnd_lo (t : Nat → Int) (n k : Nat) (hk : k ≤ n) : -1 ≤ dEnd t n k := by have := dEnd_bd t n k hk; omega
theorem dEnd_hi (t : Nat → Int) (n k : Nat) (hk : k ≤ n) : dEnd t n k ≤ n := by have := dEnd_bd t n k hk; omega

set_option maxRecDepth 100000 in
/-- numberEnd over a row of n bytes. -/
theorem number_any (b off n c a : Nat) (t : Nat → Int) (w : World) (hn : n ≤ 1048576) (ha : a < n) (hc : ∀ k, k < n → w.cell? ⟨b, off + k, none⟩ = some (.int .u8 (t k))) :
    Calls Try.prog 22 #[.slice (some ⟨b, off, none⟩) n c, .int .i64 a] w fun e w' => e = .returned (.int .i64 (numEnd t n a)) ∧ w' = w := by
  have hca := hc a ha
  go_enter Try.func22, Try.ntmps22
  go_upto_if 9 with fail
  go_cut [1] (fun x wx => w = wx ∧ ∃ a1 : Nat, x = .int .i64 a1 ∧ a1 ≤ n ∧ Hid (st2 t n a1 = numEnd t n a))
  case first =>
    go_wp2
    all_goals go_meet
    case rel => exact ⟨rfl, a + 1, by go_num, by omega, numEnd_yes ‹_›⟩
    case rel => exact ⟨rfl, a, rfl, by omega, numEnd_no ‹_›⟩
  case rest =>
    obtain ⟨rfl, a1, rfl, h1, H⟩ := hcut
    clear hca
    go_upto_block 0 with fail
    go_cut [1] (fun x wx => w = wx ∧ ∃ r : Int, x = .int .i64 r ∧ -1 ≤ r ∧ r ≤ n ∧ Hid (st3 t n r = numEnd t n a))
    case first =>
      by_cases e1 : a1 < n
      · have hcell := hc a1 e1
        go_wp2_with (go_at_call 30; refine (digits_any b off n c a1 t _ hn h1 hc).mono ?_; rintro e w' ⟨rfl, rfl⟩)
        all_goals go_meet
        case rel => exact ⟨rfl, _, rfl, by omega, by omega, (st2_zero e1 ‹_›).symm.trans H.out⟩
        case rel => exact ⟨rfl, _, rfl, dEnd_lo t n a1 h1, dEnd_hi t n a1 h1, (st2_dig e1 ‹_›).symm.trans H.out⟩
      · obtain rfl : a1 = n := by omega
        go_wp2_with fail
        go_ret
        exact ⟨ret_int (st2_end.symm.trans H.out), rfl⟩
    case rest =>
      clear H h1
      obtain ⟨rfl, r, rfl, r1, r2, H⟩ := hcut
      go_upto_region 8 with fail
      go_cut [1, 42] (fun x y wx => w = wx ∧ ∃ r : Int, x = .int .i64 r ∧ -1 ≤ r ∧ r ≤ n ∧ ((y = .bool true ∧ ∃ m : Nat, r = m ∧ m < n ∧ Hid (st4 t n (dEnd t n (m + 1)) = numEnd t n a)) ∨ (y = .bool false ∧ Hid (st4 t n r = numEnd t n a))))
      case first =>
        by_cases e1 : r = -1
        · subst e1
          go_wp2_with fail
          all_goals go_meet
          case rel => exact ⟨rfl, _, rfl, by omega, by omega, .inr ⟨rfl, st3_neg.symm.trans H.out⟩⟩
        · obtain ⟨m, rfl⟩ : ∃ m : Nat, r = m := ⟨r.toNat, by omega⟩
          by_cases e2 : m < n
          · have hcell := hc m e2
            by_cases e3 : t m = 46
            · have e4 : (t m == 46) = true := by simp [e3]
              clear e3
              go_wp2_with fail
              all_goals go_meet
              case rel => exact ⟨rfl, _, rfl, by omega, by omega, .inl ⟨rfl, m, rfl, e2, (st3_dot e2 e4).symm.trans H.out⟩⟩
            · have e4 : (t m == 46) = false := by simp [e3]
              clear e3
              go_wp2_with fail
              all_goals go_meet
              case rel => exact ⟨rfl, _, rfl, by omega, by omega, .inr ⟨rfl, (st3_no e4).symm.trans H.out⟩⟩
          · go_wp2_with fail
            all_goals go_meet
            case rel => exact ⟨rfl, _, rfl, by omega, by omega, .inr ⟨rfl, (st3_end e2).symm.trans H.out⟩⟩
      case rest =>
        clear H r1 r2 r
        go_upto_if 42 with fail
        have hold := hcut
        clear hcut
        go_cut [1] (fun x wx => w = wx ∧ ∃ r : Int, x = .int .i64 r ∧ -1 ≤ r ∧ r ≤ n ∧ Hid (st4 t n r = numEnd t n a))
        case first =>
          obtain ⟨rfl, r, rfl, r1, r2, ⟨rfl, m, rfl, hm, H⟩ | ⟨rfl, H⟩⟩ := hold
          · go_wp2_with (go_at_call 30; refine (digits_any b off n c (m + 1) t _ hn (by omega) hc).mono ?_; rintro e w' ⟨rfl, rfl⟩)
            all_goals go_meet
            case rel => exact ⟨rfl, _, rfl, dEnd_lo t n _ (by omega), dEnd_hi t n _ (by omega), H⟩
          · go_wp2_with fail
            all_goals go_meet
            case rel => exact ⟨rfl, r, rfl, r1, r2, H⟩
        case rest =>
          clear hold
          obtain ⟨rfl, r, rfl, r1, r2, H⟩ := hcut
          go_upto_region 10 with fail
          go_cut [1, 68] (fun x y wx => w = wx ∧ ∃ r : Int, x = .int .i64 r ∧ ((y = .bool true ∧ ∃ m : Nat, r = m ∧ m < n ∧ Hid (exE t n m = numEnd t n a)) ∨ (y = .bool false ∧ Hid (r = numEnd t n a))))
          case first =>
            by_cases e1 : r = -1
            · subst e1
              go_wp2_with fail
              all_goals go_meet
              case rel => exact ⟨rfl, _, rfl, .inr ⟨rfl, st4_neg.symm.trans H.out⟩⟩
            · obtain ⟨m, rfl⟩ : ∃ m : Nat, r = m := ⟨r.toNat, by omega⟩
              by_cases e2 : m < n
              · have hcell := hc m e2
                by_cases e3 : t m = 101
                · have e4 : (t m == 101) = true := by simp [e3]
                  clear e3
                  go_wp2_with fail
                  all_goals go_meet
                  case rel => exact ⟨rfl, _, rfl, .inl ⟨rfl, m, rfl, e2, (st4_e e2 (.inl e4)).symm.trans H.out⟩⟩
                · have e4 : (t m == 101) = false := by simp [e3]
                  clear e3
                  by_cases e5 : t m = 69
                  · have e6 : (t m == 69) = true := by simp [e5]
                    clear e5
                    go_wp2_with fail
                    all_goals go_meet
                    case rel => exact ⟨rfl, _, rfl, .inl ⟨rfl, m, rfl, e2, (st4_e e2 (.inr e6)).symm.trans H.out⟩⟩
                  · have e6 : (t m == 69) = false := by simp [e5]
                    clear e5
                    go_wp2_with fail
                    all_goals go_meet
                    case rel => exact ⟨rfl, _, rfl, .inr ⟨rfl, (st4_no e4 e6).symm.trans H.out⟩⟩
              · go_wp2_with fail
                all_goals go_meet
                case rel => exact ⟨rfl, _, rfl, .inr ⟨rfl, (st4_end e2).symm.trans H.out⟩⟩
          case rest =>
            clear H r1 r2 r
            obtain ⟨rfl, r, rfl, ⟨rfl, m, rfl, hm, H⟩ | ⟨rfl, H⟩⟩ := hcut
            · by_cases e2 : m + 1 < n
              · have hcell := hc (m + 1) e2
                by_cases e3 : t (m + 1) = 43
                · have e4 : (t (m + 1) == 43) = true := by simp [e3]
                  clear e3
                  go_wp2_with (go_at_call 30; refine (digits_any b off n c (m + 2) t _ hn (by omega) hc).mono ?_; rintro e w' ⟨rfl, rfl⟩)
                  go_ret
                  exact ⟨ret_int ((exE_sign e2 (.inl e4)).symm.trans H.out), rfl⟩
                · have e4 : (t (m + 1) == 43) = false := by simp [e3]
                  clear e3
                  by_cases e5 : t (m + 1) = 45
                  · have e6 : (t (m + 1) == 45) = true := by simp [e5]
                    clear e5
                    go_wp2_with (go_at_call 30; refine (digits_any b off n c (m + 2) t _ hn (by omega) hc).mono ?_; rintro e w' ⟨rfl, rfl⟩)
                    go_ret
                    exact ⟨ret_int ((exE_sign e2 (.inr e6)).symm.trans H.out), rfl⟩
                  · have e6 : (t (m + 1) == 45) = false := by simp [e5]
                    clear e5
                    go_wp2_with (go_at_call 30; refine (digits_any b off n c (m + 1) t _ hn (by omega) hc).mono ?_; rintro e w' ⟨rfl, rfl⟩)
                    go_ret
                    exact ⟨ret_int ((exE_no e4 e6).symm.trans H.out), rfl⟩
              · go_wp2_with (go_at_call 30; refine (digits_any b off n c (m + 1) t _ hn (by omega) hc).mono ?_; rintro e w' ⟨rfl, rfl⟩)
                go_ret
                exact ⟨ret_int ((exE_end e2).symm.trans H.out), rfl⟩
            · go_wp2_with fail
              go_ret
              exact ⟨ret_int H.out, rfl⟩
end Go.Proofs.Qxb6605316a.Num
