/-
  THE WALKS of 'litAt' (19), 'decAt' (20), 'upperHexAt' (21).
-/
import Derived.Test.Qxb6605316aRows
import Derived.Test.Qxb6605316aSnnPlain
import Derived.WalkKit
import Derived.RegionTactic
import Derived.BigRegion
namespace Go.Proofs.Qxb6605316a.Snn
open Go.RowKit

theorem ret_bool {a b : Bool} (h : a = b) : Ending.returned (.bool a) = .returned (.bool b) := by rw [h]

theorem lit_stop {s l : ByteArray} {a k : Nat} (hk : k < l.size) (hs : a + k < s.size) (h : ((s[a + k].toNat : Int) != (l[k].toNat : Int)) = true) : false = litB s a l := by
  refine (all_false hk ?_).symm
  show decide (bt s (a + k) = bt l k) = false
  rw [bt_eq hs, bt_eq hk]
  simpa using h
theorem lit_step {s l : ByteArray} {a k : Nat} (H : all (fun j => decide (bt s (a + j) = bt l j)) k = true) (hk : k < l.size) (hs : a + k < s.size) (h : ((s[a + k].toNat : Int) != (l[k].toNat : Int)) = false) :
    all (fun j => decide (bt s (a + j) = bt l j)) (k + 1) = true := by
  rw [all, H]
  show decide (bt s (a + k) = bt l k) = true
  rw [bt_eq hs, bt_eq hk]
  simpa using h

theorem lit_any (s l : ByteArray) (a : Nat) (x : Int) (hx : x = a) (w : World) (hs : s.size ≤ 1048576) (h : a + l.size ≤ s.size) :
    Calls Try.prog 19 #[.string s, .int .i64 x, .string l] w fun e w' => e = .returned (.bool (litB s a l)) ∧ Below w.heap.size w w' := by
  subst hx
  have g0 : ¬ (s.size : Int) < a := by omega
  have g1 : ¬ (s.size : Int) - a < l.size := by omega
  go_enter Try.func19, Try.ntmps19
  go_wp2
  go_loopw [7] (fun x wr => ∃ k : Nat, k ≤ l.size ∧ x = .int .i64 k ∧ Hid (all (fun j => decide (bt s (a + j) = bt l j)) k = true) ∧ Below w.heap.size w wr) (fun x _ => l.size - (intOf x).toNat)
  case atStart => exact ⟨0, Nat.zero_le _, rfl, rfl, Below.refl _ _⟩
  case round =>
    obtain ⟨k, hk, rfl, H, hB⟩ := hrel
    by_cases hlt : k < l.size
    · have i1 : (a : Int) + k < s.size := by omega
      have i0 : (0 : Int) ≤ a + k := by omega
      have i2 : (k : Int) < l.size := by omega
      go_wp2_with fail
      go_region
      all_goals go_wp2_with fail
      · go_ret
        exact ⟨ret_bool (lit_stop hlt (by omega) ‹_›), hB.drew⟩
      · go_roundw
        case rel => exact ⟨k + 1, by omega, by go_num, lit_step H.out hlt (by omega) ‹_›, hB.drew⟩
        case measure => simp [intOf]; omega
    · obtain rfl : k = l.size := by omega
      go_wp2_with fail
      go_ret
      exact ⟨ret_bool (by rw [litB, H.out]), hB⟩

theorem dec_stop {s : ByteArray} {a n k : Nat} (hk : k < n) (hs : a + k < s.size) (h : (s[a + k].toNat : Int) < 48 ∨ 57 < (s[a + k].toNat : Int)) : false = decB s a n := by
  refine (all_false hk ?_).symm
  show decide (48 ≤ bt s (a + k) ∧ bt s (a + k) ≤ 57) = false
  rw [bt_eq hs]
  exact decide_eq_false (by omega)
theorem dec_step {s : ByteArray} {a k : Nat} (H : all (fun j => decide (48 ≤ bt s (a + j) ∧ bt s (a + j) ≤ 57)) k = true) (hs : a + k < s.size) (h : 48 ≤ (s[a + k].toNat : Int)) (h' : (s[a + k].toNat : Int) ≤ 57) :
    all (fun j => decide (48 ≤ bt s (a + j) ∧ bt s (a + j) ≤ 57)) (k + 1) = true := by
  rw [all, H]
  show decide (48 ≤ bt s (a + k) ∧ bt s (a + k) ≤ 57) = true
  rw [bt_eq hs]
  exact decide_eq_true ⟨h, h'⟩

theorem dec_any (s : ByteArray) (a n : Nat) (x y : Int) (hx : x = a) (hy : y = n) (w : World) (hs : s.size ≤ 1048576) (h : a + n ≤ s.size) :
    Calls Try.prog 20 #[.string s, .int .i64 x, .int .i64 y] w fun e w' => e = .returned (.bool (decB s a n)) ∧ Below w.heap.size w w' := by
  subst hx; subst hy
  have g0 : ¬ (s.size : Int) < a := by omega
  have g1 : ¬ (s.size : Int) - a < n := by omega
  go_enter Try.func20, Try.ntmps20
  go_wp2
  go_loopw [7] (fun x wr => ∃ k : Nat, k ≤ n ∧ x = .int .i64 k ∧ Hid (all (fun j => decide (48 ≤ bt s (a + j) ∧ bt s (a + j) ≤ 57)) k = true) ∧ Below w.heap.size w wr) (fun x _ => n - (intOf x).toNat)
  case atStart => exact ⟨0, Nat.zero_le _, rfl, rfl, Below.refl _ _⟩
  case round =>
    obtain ⟨k, hk, rfl, H, hB⟩ := hrel
    by_cases hlt : k < n
    · have i1 : (a : Int) + k < s.size := by omega
      have i0 : (0 : Int) ≤ a + k := by omega
      go_wp2_with fail
      · go_ret
        exact ⟨ret_bool (dec_stop hlt (by omega) ‹_›), hB⟩
      · go_roundw
        case rel => exact ⟨k + 1, by omega, by go_num, dec_step H.out (by omega) (by omega) (by omega), hB⟩
        case measure => simp [intOf]; omega
      · go_ret
        exact ⟨ret_bool (dec_stop hlt (by omega) (.inl ‹_›)), hB⟩
    · obtain rfl : k = n := by omega
      go_wp2_with fail
      go_ret
      exact ⟨ret_bool (by rw [decB, H.out]), hB⟩

theorem hex_stop {s : ByteArray} {a n k : Nat} (hk : k < n) (hs : a + k < s.size) (h : ¬ ((48 ≤ (s[a + k].toNat : Int) ∧ (s[a + k].toNat : Int) ≤ 57) ∨ (65 ≤ (s[a + k].toNat : Int) ∧ (s[a + k].toNat : Int) ≤ 70))) : false = hexB s a n := by
  refine (all_false hk ?_).symm
  show decide ((48 ≤ bt s (a + k) ∧ bt s (a + k) ≤ 57) ∨ (65 ≤ bt s (a + k) ∧ bt s (a + k) ≤ 70)) = false
  rw [bt_eq hs]
  exact decide_eq_false h
theorem hex_step {s : ByteArray} {a k : Nat} (H : all (fun j => decide ((48 ≤ bt s (a + j) ∧ bt s (a + j) ≤ 57) ∨ (65 ≤ bt s (a + j) ∧ bt s (a + j) ≤ 70))) k = true) (hs : a + k < s.size)
    (h : (48 ≤ (s[a + k].toNat : Int) ∧ (s[a + k].toNat : Int) ≤ 57) ∨ (65 ≤ (s[a + k].toNat : Int) ∧ (s[a + k].toNat : Int) ≤ 70)) :
    all (fun j => decide ((48 ≤ bt s (a + j) ∧ bt s (a + j) ≤ 57) ∨ (65 ≤ bt s (a + j) ∧ bt s (a + j) ≤ 70))) (k + 1) = true := by
  rw [all, H]
  show decide ((48 ≤ bt s (a + k) ∧ bt s (a + k) ≤ 57) ∨ (65 ≤ bt s (a + k) ∧ bt s (a + k) ≤ 70)) = true
  rw [bt_eq hs]
  exact decide_eq_true h

theorem hex_any (s : ByteArray) (a n : Nat) (x y : Int) (hx : x = a) (hy : y = n) (w : World) (hs : s.size ≤ 1048576) (h : a + n ≤ s.size) :
    Calls Try.prog 21 #[.string s, .int .i64 x, .int .i64 y] w fun e w' => e = .returned (.bool (hexB s a n)) ∧ Below w.heap.size w w' := by
  subst hx; subst hy
  have g0 : ¬ (s.size : Int) < a := by omega
  have g1 : ¬ (s.size : Int) - a < n := by omega
  go_enter Try.func21, Try.ntmps21
  go_wp2
  go_loopw [7] (fun x wr => ∃ k : Nat, k ≤ n ∧ x = .int .i64 k ∧ Hid (all (fun j => decide ((48 ≤ bt s (a + j) ∧ bt s (a + j) ≤ 57) ∨ (65 ≤ bt s (a + j) ∧ bt s (a + j) ≤ 70))) k = true) ∧ Below w.heap.size w wr) (fun x _ => n - (intOf x).toNat)
  case atStart => exact ⟨0, Nat.zero_le _, rfl, rfl, Below.refl _ _⟩
  case round =>
    obtain ⟨k, hk, rfl, H, hB⟩ := hrel
    by_cases hlt : k < n
    · have i1 : (a : Int) + k < s.size := by omega
      have i0 : (0 : Int) ≤ a + k := by omega
      go_wp2_with fail
      · go_ret
        exact ⟨ret_bool (hex_stop hlt (by omega) (by simp only [Bool.not_eq_true', decide_eq_false_iff_not] at *; omega)), hB⟩
      · go_roundw
        case rel => exact ⟨k + 1, by omega, by go_num, hex_step H.out (by omega) (by simp only [Bool.not_eq_false', decide_eq_true_eq] at *; omega), hB⟩
        case measure => simp [intOf]; omega
      · go_ret
        exact ⟨ret_bool (hex_stop hlt (by omega) (by omega)), hB⟩
      · exfalso
        simp only [Bool.not_eq_false', decide_eq_true_eq] at *
        omega
      · go_roundw
        case rel => exact ⟨k + 1, by omega, by go_num, hex_step H.out (by omega) (by omega), hB⟩
        case measure => simp [intOf]; omega
      · go_ret
        exact ⟨ret_bool (hex_stop hlt (by omega) (by omega)), hB⟩
    · obtain rfl : k = n := by omega
      go_wp2_with fail
      go_ret
      exact ⟨ret_bool (by rw [hexB, H.out]), hB⟩
end Go.Proofs.Qxb6605316a.Snn
