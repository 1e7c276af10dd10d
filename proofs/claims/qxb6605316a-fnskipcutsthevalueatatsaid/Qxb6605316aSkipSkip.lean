/-
  THE WALKS of the decoder's method 'skip' (28).
-/
import Derived.Test.Qxb6605316aSkipNext
namespace Go.Proofs.Qxb6605316a.Skip
open Go.RowKit

theorem ret_slice {a : Option Addr} {m m' c : Nat} (h : m = m') : Ending.returned (.slice a m c) = .returned (.slice a m' c) := by rw [h]

set_option maxRecDepth 100000 in
set_option maxHeartbeats 2000000 in
/-- A string. -/
theorem skip_str (T D n k0 S e : Nat) (t : Nat → Int) (w : World) (hn : n ≤ 1048576) (hk0 : k0 ≤ n) (hT : T < D)
    (hc : ∀ k, k < n → w.cell? ⟨T, k, none⟩ = some (.int .u8 (t k))) (hD : Dcd w D (some ⟨T, 0, none⟩) n k0) (hS : Hid (adv blankB t n (n - k0) k0 = S)) (hSn : S < n) (h34 : Hid (t S = 34)) (hE : Hid (SK t n (S + 1) = (e : Int))) (hSe : S ≤ e) (hen : e ≤ n) :
    Calls Try.prog 28 #[.pointer (some ⟨D, 0, none⟩)] w fun en w' => ∃ cp : Nat, en = .returned (.slice (some ⟨T, S, none⟩) (e - S) cp) ∧ Dcd w' D (some ⟨T, 0, none⟩) n e ∧ Below D w w' := by
  go_enter Try.func28, Try.ntmps28
  go_wp2_with fail
  refine (next_any T D n k0 S (some ⟨T, 0, none⟩) t w hn hk0 (fun _ => rfl) (fun _ => hT) hc hD hS).mono ?_
  rintro en w1 ⟨cv, rfl, hcv, hD1, hB1⟩
  obtain rfl : cv = 34 := by
    rcases hcv with ⟨_, h⟩ | ⟨h, _⟩
    · rw [h, h34.out]
    · omega
  have hc1 : ∀ k, k < n → w1.cell? ⟨T, k, none⟩ = some (.int .u8 (t k)) := fun k hk => (hB1.cell (p := ⟨T, k, none⟩) hT).trans (hc k hk)
  have HD1 : Hid (Dcd w1 D (some ⟨T, 0, none⟩) n S) := hD1
  have HC1 : Hid (∀ k, k < n → w1.cell? ⟨T, k, none⟩ = some (.int .u8 (t k))) := hc1
  obtain ⟨d0, d1, d2⟩ := hD1
  have HB1 : Hid (Below D w w1) := hB1
  clear hcv hc hD hS hc1 hB1
  go_wp2_with fail
  refine (skipString_any T D n S e t w1 hn hT HC1.out HD1.out hE).mono ?_
  rintro en w2 ⟨rfl, hD2, hB2⟩
  clear d0 d1 d2
  have HD2 : Hid (Dcd w2 D (some ⟨T, 0, none⟩) n e) := hD2
  obtain ⟨d0, d1, d2⟩ := hD2
  have HB2 : Hid (Below D w w2) := HB1.out.trans hB2
  clear hB2
  have n1 : ¬ n = S := by omega
  have n2 : (S : Int) ≤ e := by omega
  have n3 : (e : Int) ≤ n := by omega
  go_wp2_with fail
  go_region
  all_goals go_wp2_with fail
  go_ret
  exact ⟨_, ret_slice (by omega), HD2.out, (by repeat (first | exact HB2.out | apply Below.drew))⟩

theorem dp_open_some {t : Nat → Int} {n g D j e : Nat} (h : dp t n (g + 1) D j = (e : Int)) (ho : t j = 123 ∨ t j = 91) : dp t n g (D + 1) (j + 1) = (e : Int) := by
  obtain ⟨_, _, hj⟩ := dp_some h
  rw [dp_open hj ho] at h; exact h
theorem dp_close1_some {t : Nat → Int} {n g j e : Nat} (h : dp t n (g + 1) 1 j = (e : Int)) (hc : t j = 125 ∨ t j = 93) : e = j + 1 := by
  obtain ⟨_, _, hj⟩ := dp_some h
  rw [dp_close1 hj hc] at h; omega
theorem dp_close_some {t : Nat → Int} {n g D j e : Nat} (h : dp t n (g + 1) (D + 2) j = (e : Int)) (hc : t j = 125 ∨ t j = 93) : dp t n g (D + 1) (j + 1) = (e : Int) := by
  obtain ⟨_, _, hj⟩ := dp_some h
  rw [dp_close hj hc (by omega)] at h; exact h
theorem dp_other_some {t : Nat → Int} {n g D j e : Nat} (h : dp t n (g + 1) D j = (e : Int)) (hq : ¬ t j = 34) (ho : ¬ (t j = 123 ∨ t j = 91)) (hc : ¬ (t j = 125 ∨ t j = 93)) : dp t n g D (j + 1) = (e : Int) := by
  obtain ⟨_, _, hj⟩ := dp_some h
  rw [dp_other hj hq ho hc] at h; exact h

set_option maxRecDepth 100000 in
set_option maxHeartbeats 4000000 in
/-- An object or an array. -/
theorem skip_box (T D n k0 S e G : Nat) (t : Nat → Int) (w : World) (hn : n ≤ 1048576) (hk0 : k0 ≤ n) (hT : T < D)
    (hc : ∀ k, k < n → w.cell? ⟨T, k, none⟩ = some (.int .u8 (t k))) (hD : Dcd w D (some ⟨T, 0, none⟩) n k0) (hS : Hid (adv blankB t n (n - k0) k0 = S)) (hSn : S < n) (co : Int) (hco : Hid (t S = co)) (hop : co = 123 ∨ co = 91) (hE : Hid (dp t n G 0 S = (e : Int))) (hSe : S ≤ e) (hen : e ≤ n) :
    Calls Try.prog 28 #[.pointer (some ⟨D, 0, none⟩)] w fun en w' => ∃ cp : Nat, en = .returned (.slice (some ⟨T, S, none⟩) (e - S) cp) ∧ Dcd w' D (some ⟨T, 0, none⟩) n e ∧ Below D w w' := by
  have HO : Hid (t S = 123 ∨ t S = 91) := by
    show t S = 123 ∨ t S = 91
    rw [hco.out]; exact hop
  have q34 : (co == 34) = false := by rcases hop with h | h <;> simp [h]
  have qo : (co == 123) = true ∨ ((co == 123) = false ∧ (co == 91) = true) := by
    rcases hop with h | h
    · left; simp [h]
    · right; simp [h]
  clear hop
  go_enter Try.func28, Try.ntmps28
  go_wp2_with fail
  refine (next_any T D n k0 S (some ⟨T, 0, none⟩) t w hn hk0 (fun _ => rfl) (fun _ => hT) hc hD hS).mono ?_
  rintro en w1 ⟨cv, rfl, hcv, hD1, hB1⟩
  obtain rfl : cv = co := by
    rcases hcv with ⟨_, h⟩ | ⟨h, _⟩
    · rw [h, hco.out]
    · omega
  have HC : Hid (∀ W, Below D w W → ∀ k, k < n → W.cell? ⟨T, k, none⟩ = some (.int .u8 (t k))) := fun W hW k hk => (hW.cell (p := ⟨T, k, none⟩) hT).trans (hc k hk)
  have HD1 : Hid (Dcd w1 D (some ⟨T, 0, none⟩) n S) := hD1
  obtain ⟨d0, d1, d2⟩ := hD1
  have HB1 : Hid (Below D w w1) := hB1
  clear hcv hc hD hS hB1
  have n1 : ¬ n = S := by omega
  have n2 : (S : Int) ≤ e := by omega
  have n3 : (e : Int) ≤ n := by omega
  rcases qo with qo | ⟨qo, qo2⟩
  all_goals
    go_wp2_with fail
    go_loopg [5] G (fun g x wr => ∃ Dp j : Nat, Dp ≤ j ∧ j ≤ n ∧ x = .int .i64 Dp ∧ Dcd wr D (some ⟨T, 0, none⟩) n j ∧ Below D w wr ∧ Hid (dp t n g Dp j = (e : Int)) ∧ Hid (Dp = 0 → t j = 123 ∨ t j = 91))
    case atStart => exact ⟨0, S, Nat.zero_le _, by omega, rfl, HD1.out, HB1.out, hE, fun _ => HO.out⟩
    case round =>
      clear d0 d1 d2
      obtain ⟨Dp, j, hDj, hjn, rfl, hDr, hB, H, HZ⟩ := hrel
      obtain ⟨g', rfl, hj⟩ := dp_some H.out
      obtain ⟨d0, d1, d2⟩ := hDr
      have hcell := HC.out wr hB j hj
      have i1 : (j : Int) < n := by omega
      have HDr : Hid (Dcd wr D (some ⟨T, 0, none⟩) n j) := ⟨d0, d1, d2⟩
      have HBr : Hid (Below D w wr) := hB
      clear hB
      by_cases h34 : t j = 34
      · have e34 : (t j == 34) = true := by simp [h34]
        obtain ⟨e1, hs, l1, l2, hdp⟩ := dp_quote_some H.out h34
        have HS : Hid (SK t n (j + 1) = (e1 : Int)) := hs
        have HP : Hid (dp t n g' Dp e1 = (e : Int)) := hdp
        have HZ2 : Hid (Dp = 0 → t e1 = 123 ∨ t e1 = 91) := fun h0 => by have := HZ.out h0; omega
        clear h34 hs hdp
        go_wp2_with fail
        go_region
        all_goals go_wp2_with fail
        refine (skipString_any T D n j e1 t wr.drew hn hT (HC.out wr.drew HBr.out.drew) HDr.out.drew HS).mono ?_
        rintro en w2 ⟨rfl, hD2, hB2⟩
        have HD2 : Hid (Dcd w2 D (some ⟨T, 0, none⟩) n e1) := hD2
        have HB2 : Hid (Below D w w2) := (HBr.out.drew).trans hB2
        clear hD2 hB2 d0 d1 d2
        go_wp2_with fail
        go_roundg g'
        case rel => exact ⟨Dp, e1, by omega, l2, rfl, HD2.out, HB2.out, HP, HZ2⟩
        case measure => omega
      · have e34 : (t j == 34) = false := by simp [h34]
        by_cases ho : t j = 123 ∨ t j = 91
        · have HP : Hid (dp t n g' (Dp + 1) (j + 1) = (e : Int)) := dp_open_some H.out ho
          have eo : (t j == 123) = true ∨ ((t j == 123) = false ∧ (t j == 91) = true) := by
            rcases ho with h | h
            · left; simp [h]
            · right; simp [h]
          clear ho h34
          rcases eo with eo | ⟨eo, eo2⟩
          all_goals
            go_wp2_with fail
            go_region
            all_goals go_wp2_with fail
            go_roundg g'
            case rel => exact ⟨Dp + 1, j + 1, by omega, by omega, by go_num, HDr.out.put (by omega), (by repeat (first | exact HBr.out | apply Below.drew | apply below_put)), HP, fun h => by omega⟩
            case measure => omega
        · have eo1 : (t j == 123) = false := by simp; omega
          have eo2 : (t j == 91) = false := by simp; omega
          have hD1 : 1 ≤ Dp := by
            rcases Nat.eq_zero_or_pos Dp with h | h
            · exact absurd (HZ.out h) ho
            · exact h
          by_cases hc2 : t j = 125 ∨ t j = 93
          · have ec : (t j == 125) = true ∨ ((t j == 125) = false ∧ (t j == 93) = true) := by
              rcases hc2 with h | h
              · left; simp [h]
              · right; simp [h]
            by_cases h1 : Dp = 1
            · subst h1
              obtain rfl := dp_close1_some H.out hc2
              clear ho h34 hc2
              rcases ec with ec | ⟨ec, ec2⟩
              all_goals
                go_wp2_with fail
                go_region
                all_goals go_wp2_with fail
                go_region
                all_goals go_wp2_with fail
                go_ret
                exact ⟨_, ret_slice (by omega), HDr.out.put (by omega), (by repeat (first | exact HBr.out | apply Below.drew | apply below_put))⟩
            · obtain ⟨Dq, rfl⟩ : ∃ Dq, Dp = Dq + 2 := ⟨Dp - 2, by omega⟩
              have HP : Hid (dp t n g' (Dq + 1) (j + 1) = (e : Int)) := dp_close_some H.out hc2
              clear ho h34 hc2 h1
              rcases ec with ec | ⟨ec, ec2⟩
              all_goals
                go_wp2_with fail
                go_region
                all_goals go_wp2_with fail
                go_roundg g'
                case rel => exact ⟨Dq + 1, j + 1, by omega, by omega, by go_num, HDr.out.put (by omega), (by repeat (first | exact HBr.out | apply Below.drew | apply below_put)), HP, fun h => by omega⟩
                case measure => omega
          · have ec1 : (t j == 125) = false := by simp; omega
            have ec2 : (t j == 93) = false := by simp; omega
            have HP : Hid (dp t n g' Dp (j + 1) = (e : Int)) := dp_other_some H.out h34 ho hc2
            clear ho h34 hc2
            go_wp2_with fail
            go_region
            all_goals go_wp2_with fail
            go_roundg g'
            case rel => exact ⟨Dp, j + 1, by omega, by omega, rfl, HDr.out.put (by omega), (by repeat (first | exact HBr.out | apply Below.drew | apply below_put)), HP, fun h => by omega⟩
            case measure => omega

theorem stop_cases {c : Int} (h : stopB c = true) : c = 44 ∨ c = 125 ∨ c = 93 ∨ c = 32 ∨ c = 9 ∨ c = 10 ∨ c = 13 := by
  unfold stopB blankB at h
  rw [Bool.or_eq_true, decide_eq_true_eq, decide_eq_true_eq] at h
  omega
theorem stop_not {c : Int} (h : stopB c = false) : ¬ c = 44 ∧ ¬ c = 125 ∧ ¬ c = 93 ∧ ¬ c = 32 ∧ ¬ c = 9 ∧ ¬ c = 10 ∧ ¬ c = 13 := by
  unfold stopB blankB at h
  rw [Bool.or_eq_false_iff, decide_eq_false_iff_not, decide_eq_false_iff_not] at h
  omega

set_option maxRecDepth 100000 in
set_option maxHeartbeats 4000000 in
/-- Any other token. -/
theorem skip_scalar (T D n k0 S e : Nat) (t : Nat → Int) (w : World) (hn : n ≤ 1048576) (hk0 : k0 ≤ n) (hT : T < D)
    (hc : ∀ k, k < n → w.cell? ⟨T, k, none⟩ = some (.int .u8 (t k))) (hD : Dcd w D (some ⟨T, 0, none⟩) n k0) (hS : Hid (adv blankB t n (n - k0) k0 = S)) (hSn : S < n) (co : Int) (hco : Hid (t S = co)) (q34 : (co == 34) = false) (q123 : (co == 123) = false) (q91 : (co == 91) = false)
    (hE : Hid (adv goesB t n (n - S) S = e)) (hSe : S ≤ e) (hen : e ≤ n) :
    Calls Try.prog 28 #[.pointer (some ⟨D, 0, none⟩)] w fun en w' => ∃ cp : Nat, en = .returned (.slice (some ⟨T, S, none⟩) (e - S) cp) ∧ Dcd w' D (some ⟨T, 0, none⟩) n e ∧ Below D w w' := by
  go_enter Try.func28, Try.ntmps28
  go_wp2_with fail
  refine (next_any T D n k0 S (some ⟨T, 0, none⟩) t w hn hk0 (fun _ => rfl) (fun _ => hT) hc hD hS).mono ?_
  rintro en w1 ⟨cv, rfl, hcv, hD1, hB1⟩
  obtain rfl : cv = co := by
    rcases hcv with ⟨_, h⟩ | ⟨h, _⟩
    · rw [h, hco.out]
    · omega
  have HC : Hid (∀ W, Below D w W → ∀ k, k < n → W.cell? ⟨T, k, none⟩ = some (.int .u8 (t k))) := fun W hW k hk => (hW.cell (p := ⟨T, k, none⟩) hT).trans (hc k hk)
  have HD1 : Hid (Dcd w1 D (some ⟨T, 0, none⟩) n S) := hD1
  obtain ⟨d0, d1, d2⟩ := hD1
  have HB1 : Hid (Below D w w1) := hB1
  clear hcv hc hD hS hB1
  have n1 : ¬ n = S := by omega
  have n2 : (S : Int) ≤ e := by omega
  have n3 : (e : Int) ≤ n := by omega
  go_wp2_with fail
  go_loopg [] (n - S) (fun g wr => ∃ k : Nat, k ≤ n ∧ g = n - k ∧ Dcd wr D (some ⟨T, 0, none⟩) n k ∧ Below D w wr ∧ Hid (adv goesB t n (n - k) k = e))
  case atStart => exact ⟨S, by omega, rfl, HD1.out, HB1.out, hE⟩
  case round =>
    clear d0 d1 d2
    obtain ⟨k, hk, rfl, hDr, hB, H⟩ := hrel
    obtain ⟨d0, d1, d2⟩ := hDr
    have HDr : Hid (Dcd wr D (some ⟨T, 0, none⟩) n k) := ⟨d0, d1, d2⟩
    have HBr : Hid (Below D w wr) := hB
    by_cases hlt : k < n
    · have hcell := HC.out wr hB k hlt
      have i1 : (k : Int) < n := by omega
      obtain ⟨ck, hck⟩ : ∃ ck, t k = ck := ⟨_, rfl⟩
      rw [hck] at hcell
      have HK : Hid (t k = ck) := hck
      clear hB hck
      cases hs : stopB ck with
      | true =>
        obtain rfl : k = e := (adv_stop (goes_no (by rw [HK.out]; exact hs)) _).symm.trans H.out
        have hcs := stop_cases hs
        clear hs
        rcases hcs with rfl | rfl | rfl | rfl | rfl | rfl | rfl
        all_goals
          go_wp2_with fail
          go_region
          all_goals go_wp2_with fail
          go_region
          all_goals go_wp2_with fail
          go_region
          all_goals go_wp2_with fail
          go_ret
          exact ⟨_, ret_slice (by omega), HDr.out, (by repeat (first | exact HBr.out | apply Below.drew | apply below_put))⟩
      | false =>
        have H2 : Hid (adv goesB t n (n - (k + 1)) (k + 1) = e) := (adv_go hlt (goes_yes (by rw [HK.out]; exact hs))).symm.trans H.out
        obtain ⟨m1, m2, m3, m4, m5, m6, m7⟩ := stop_not hs
        have z1 : (ck == 44) = false := by simp [m1]
        have z2 : (ck == 125) = false := by simp [m2]
        have z3 : (ck == 93) = false := by simp [m3]
        have z4 : (ck == 32) = false := by simp [m4]
        have z5 : (ck == 9) = false := by simp [m5]
        have z6 : (ck == 10) = false := by simp [m6]
        have z7 : (ck == 13) = false := by simp [m7]
        clear hs m1 m2 m3 m4 m5 m6 m7
        go_wp2_with fail
        go_region
        all_goals go_wp2_with fail
        go_region
        all_goals go_wp2_with fail
        go_roundg (n - (k + 1))
        case rel => exact ⟨k + 1, by omega, rfl, HDr.out.put (by omega), (by repeat (first | exact HBr.out | apply Below.drew | apply below_put)), H2⟩
        case measure => omega
    · obtain rfl : k = e := (adv_end hlt _).symm.trans H.out
      clear hB
      go_wp2_with fail
      go_region
      all_goals go_wp2_with fail
      go_region
      all_goals go_wp2_with fail
      go_ret
      exact ⟨_, ret_slice (by omega), HDr.out, (by repeat (first | exact HBr.out | apply Below.drew | apply below_put))⟩
end Go.Proofs.Qxb6605316a.Skip
