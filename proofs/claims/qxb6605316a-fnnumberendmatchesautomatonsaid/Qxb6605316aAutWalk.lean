/-
  THE WALKS of 'numAutomaton' (13) and of 'FnNumberEndMatchesAutomaton' (4).
-/
import Derived.Test.Qxb6605316aAutStep
import Derived.Test.Qxb6605316aLocalWalk
namespace Go.Proofs.Qxb6605316a.Aut
open Go.RowKit
open Num Cl Local

theorem fin_yes {s i : Nat} (h : s = 2 ∨ s = 3 ∨ s = 5 ∨ s = 8) : fin s i = (i : Int) := if_pos h
theorem fin_no {s i : Nat} (h : ¬ (s = 2 ∨ s = 3 ∨ s = 5 ∨ s = 8)) : fin s i = -1 := if_neg h

set_option maxRecDepth 100000 in
set_option maxHeartbeats 1000000 in
/-- numAutomaton over a row of n bytes. -/
theorem auto_any (b off n c a : Nat) (t : Nat → Int) (w : World) (hn : n ≤ 1048576) (ha : a ≤ n) (hc : ∀ k, k < n → w.cell? ⟨b, off + k, none⟩ = some (.int .u8 (t k))) :
    Calls Try.prog 13 #[.slice (some ⟨b, off, none⟩) n c, .int .i64 a] w fun e w' => e = .returned (.int .i64 (aut t n (n - a) 0 a)) ∧ w' = w := by
  go_enter Try.func13, Try.ntmps13
  go_wp2_with fail
  go_loop [5, 6] (fun x y => ∃ s k : Nat, s ≤ 8 ∧ k ≤ n ∧ x = .int .i64 s ∧ y = .int .i64 k ∧ Hid (aut t n (n - k) s k = aut t n (n - a) 0 a)) (fun _ y => n - (intOf y).toNat)
  case atStart => exact ⟨0, a, by omega, ha, rfl, rfl, rfl⟩
  case round =>
    obtain ⟨s, k, hs, hk, rfl, rfl, H⟩ := hrel
    by_cases hlt : k < n
    · have hcell := hc k hlt
      by_cases hst : Num.step s (t k) = -1
      · have E : Hid (aut t n (n - a) 0 a = fin s k) := H.out.symm.trans (aut_stop hst _)
        have C := fun w => step_any s hs (t k) w
        rw [hst] at C
        clear H hst
        go_wp2_with (go_at_call 23; refine (C _).mono ?_; rintro e w' ⟨rfl, hw⟩; subst w')
        all_goals
          go_ret
          refine ⟨ret_int ?_, rfl⟩
          try simp only [beq_iff_eq, beq_eq_false_iff_ne, ne_eq] at *
          rw [E.out]
          first | rw [fin_yes (by omega)] | rw [fin_no (by omega)]
      · have hs2 := step_lt s (t k)
        obtain ⟨s', hs'⟩ : ∃ s' : Nat, Num.step s (t k) = (s' : Int) := ⟨(Num.step s (t k)).toNat, by omega⟩
        have hs8 : s' ≤ 8 := by omega
        have E : Hid (aut t n (n - (k + 1)) s' (k + 1) = aut t n (n - a) 0 a) := (aut_go hlt hs').symm.trans H.out
        have C := fun w => step_any s hs (t k) w
        rw [hs'] at C
        clear H hs' hst hs2
        go_wp2_with (go_at_call 23; refine (C _).mono ?_; rintro e w' ⟨rfl, hw⟩; subst w')
        go_round
        case rel => exact ⟨s', k + 1, hs8, by omega, rfl, by go_num, E⟩
        case measure => simp [intOf]; omega
    · have E : Hid (aut t n (n - a) 0 a = fin s k) := H.out.symm.trans (aut_end hlt _)
      clear H
      go_wp2_with fail
      all_goals
        go_ret
        refine ⟨ret_int ?_, rfl⟩
        try simp only [beq_iff_eq, beq_eq_false_iff_ne, ne_eq] at *
        rw [E.out]
        first | rw [fin_yes (by omega)] | rw [fin_no (by omega)]

theorem zzA_yes (a0 : Option Addr) (n0 c0 : Nat) (x : Int) (w : World) (h : n0 ≤ 1048576) :
    Calls Try.prog 10 #[.slice a0 n0 c0, .int .i64 x] w fun e w' => e = .returned (.bool true) ∧ w' = w := by
  go_enter Try.func10, Try.ntmps10
  go_wp2
  go_ret
  exact ⟨rfl, rfl⟩
theorem zzA_no (a0 : Option Addr) (n0 c0 : Nat) (x : Int) (w : World) (h : 1048576 < n0) :
    Calls Try.prog 10 #[.slice a0 n0 c0, .int .i64 x] w fun e w' => e = .returned (.bool false) ∧ w' = w := by
  go_enter Try.func10, Try.ntmps10
  go_wp2
  go_ret
  exact ⟨rfl, rfl⟩

theorem outA_big (a0 : Option Addr) (n0 c0 : Nat) (x : Int) (w : World) (h : 1048576 < n0) :
    Calls Try.prog 4 #[.slice a0 n0 c0, .int .i64 x] w fun e w' => e = .returned (.bool true) ∧ Below w.heap.size w w' := by
  go_enter Try.func4, Try.ntmps4
  go_wp2_with (go_at_call 10; refine (zzA_no _ _ _ _ _ h).mono ?_; rintro e w' ⟨rfl, rfl⟩)
  go_ret
  exact ⟨rfl, Below.refl _ _⟩
theorem outA_off (a0 : Option Addr) (n0 c0 : Nat) (x : Int) (w : World) (h : n0 ≤ 1048576) (hx : x < 0 ∨ (n0 : Int) ≤ x) :
    Calls Try.prog 4 #[.slice a0 n0 c0, .int .i64 x] w fun e w' => e = .returned (.bool true) ∧ Below w.heap.size w w' := by
  by_cases hx0 : x < 0
  · clear hx
    go_enter Try.func4, Try.ntmps4
    go_wp2_with (go_at_call 10; refine (zzA_yes _ _ _ _ _ h).mono ?_; rintro e w' ⟨rfl, rfl⟩)
    go_ret
    exact ⟨rfl, Below.refl _ _⟩
  · have hx1 : (n0 : Int) ≤ x := by omega
    clear hx
    go_enter Try.func4, Try.ntmps4
    go_wp2_with (go_at_call 10; refine (zzA_yes _ _ _ _ _ h).mono ?_; rintro e w' ⟨rfl, rfl⟩)
    go_ret
    exact ⟨rfl, Below.refl _ _⟩

theorem auto_is (b n c a : Nat) (t : Nat → Int) (w : World) (E : Int) (hn : n ≤ 1048576) (ha : a < n) (hc : ∀ k, k < n → w.cell? ⟨b, k, none⟩ = some (.int .u8 (t k))) (hE : numEnd t n a = E) :
    Calls Try.prog 13 #[.slice (some ⟨b, 0, none⟩) n c, .int .i64 a] w fun e w' => e = .returned (.int .i64 E) ∧ w' = w := by
  subst hE
  rw [← aut0 t n a ha]
  exact auto_any b 0 n c a t w hn (by omega) (fun k hk => by rw [Nat.zero_add]; exact hc k hk)
theorem zznumA_is (b n c a : Nat) (t : Nat → Int) (w : World) (E : Int) (hn : n ≤ 1048576) (ha : a < n) (hc : ∀ k, k < n → w.cell? ⟨b, k, none⟩ = some (.int .u8 (t k))) (hE : numEnd t n a = E) :
    Calls Try.prog 12 #[.slice (some ⟨b, 0, none⟩) n c, .int .i64 a] w fun e w' => e = .returned (.int .i64 E) ∧ w' = w := by
  subst hE
  exact zznum_any b 0 n c a t w hn ha (fun k hk => by rw [Nat.zero_add]; exact hc k hk)

set_option maxHeartbeats 1000000 in
theorem mainA (a0 : Option Addr) (n0 c0 a : Nat) (t0 : Nat → Int) (w : World) (h : n0 ≤ 1048576) (ha : a < n0) (A0 : Arg w a0 n0 c0 t0) :
    Calls Try.prog 4 #[.slice a0 n0 c0, .int .i64 a] w fun e w' => e = .returned (.bool true) ∧ Below w.heap.size w w' := by
  obtain ⟨E, hE⟩ : ∃ E, numEnd t0 n0 a = E := ⟨_, rfl⟩
  have HE : Hid (numEnd t0 n0 a = E) := hE
  clear hE
  go_enter Try.func4, Try.ntmps4
  go_wp2_with (go_at_call 10; refine (zzA_yes _ _ _ _ _ h).mono ?_; rintro e w' ⟨rfl, hw⟩; subst w')
  refine (clone_arg a0 n0 c0 t0 _ (by omega) A0).mono ?_
  rintro e w1 ⟨a0', rfl, O0', B1⟩
  obtain ⟨rfl, O0⟩ := O0' (by omega)
  clear O0' A0
  go_wp2_with fail
  refine (zznumA_is w.heap.size n0 n0 a t0 w1 E h ha (fun k hk => O0.cell hk (Nat.le_refl _)) HE.out).mono ?_
  rintro e w' ⟨rfl, hw⟩
  subst w'
  go_wp2_with fail
  refine (auto_is w.heap.size n0 n0 a t0 w1 E h ha (fun k hk => O0.cell hk (Nat.le_refl _)) HE.out).mono ?_
  rintro e w' ⟨rfl, hw⟩
  subst w'
  go_wp2_with fail
  go_ret
  exact ⟨by simp, B1⟩
end Go.Proofs.Qxb6605316a.Aut
