/-
  THE WALK of 'FnSkipCutsTheValueAtAt' (6).
-/
import Derived.Test.Qxb6605316aSkipEnd
import Derived.Test.Qxb6605316aLocalWalk
namespace Go.Proofs.Qxb6605316a.Skip
open Go.RowKit
open Cl Local

theorem zzK_yes (a0 : Option Addr) (n0 c0 : Nat) (x : Int) (w : World) (h : n0 ≤ 1048576) :
    Calls Try.prog 15 #[.slice a0 n0 c0, .int .i64 x] w fun e w' => e = .returned (.bool true) ∧ w' = w := by
  go_enter Try.func15, Try.ntmps15
  go_wp2
  go_ret
  exact ⟨rfl, rfl⟩
theorem zzK_no (a0 : Option Addr) (n0 c0 : Nat) (x : Int) (w : World) (h : 1048576 < n0) :
    Calls Try.prog 15 #[.slice a0 n0 c0, .int .i64 x] w fun e w' => e = .returned (.bool false) ∧ w' = w := by
  go_enter Try.func15, Try.ntmps15
  go_wp2
  go_ret
  exact ⟨rfl, rfl⟩
set_option maxRecDepth 100000 in
theorem outK_big (a0 : Option Addr) (n0 c0 : Nat) (x : Int) (w : World) (h : 1048576 < n0) :
    Calls Try.prog 6 #[.slice a0 n0 c0, .int .i64 x] w fun e w' => e = .returned (.bool true) ∧ Below w.heap.size w w' := by
  go_enter Try.func6, Try.ntmps6
  go_wp2_with (go_at_call 15; refine (zzK_no _ _ _ _ _ h).mono ?_; rintro e w' ⟨rfl, rfl⟩)
  go_ret
  exact ⟨rfl, Below.refl _ _⟩
set_option maxRecDepth 100000 in
theorem outK_off (a0 : Option Addr) (n0 c0 : Nat) (x : Int) (w : World) (h : n0 ≤ 1048576) (hx : x < 0 ∨ (n0 : Int) < x) :
    Calls Try.prog 6 #[.slice a0 n0 c0, .int .i64 x] w fun e w' => e = .returned (.bool true) ∧ Below w.heap.size w w' := by
  by_cases hx0 : x < 0
  · clear hx
    go_enter Try.func6, Try.ntmps6
    go_wp2_with (go_at_call 15; refine (zzK_yes _ _ _ _ _ h).mono ?_; rintro e w' ⟨rfl, rfl⟩)
    go_ret
    exact ⟨rfl, Below.refl _ _⟩
  · have hx1 : (n0 : Int) < x := by omega
    clear hx
    go_enter Try.func6, Try.ntmps6
    go_wp2_with (go_at_call 15; refine (zzK_yes _ _ _ _ _ h).mono ?_; rintro e w' ⟨rfl, rfl⟩)
    go_ret
    exact ⟨rfl, Below.refl _ _⟩

/-- valueSpan, nil or not. -/
theorem span_all (T n k0 S : Nat) (ao : Option Addr) (t : Nat → Int) (w : World) (hn : n ≤ 1048576) (hk0 : k0 ≤ n) (ha : 0 < n → ao = some ⟨T, 0, none⟩)
    (hc : ∀ k, k < n → w.cell? ⟨T, k, none⟩ = some (.int .u8 (t k))) (hS : adv blankB t n (n - k0) k0 = S) :
    Calls Try.prog 16 #[.slice ao n n, .int .i64 k0] w fun en w' => ∃ r : Int, en = .returned (.tuple #[.int .i64 S, .int .i64 r]) ∧ SpanR t n S r ∧ w' = w := by
  rcases Nat.eq_zero_or_pos n with h | h
  · subst h
    obtain rfl : k0 = 0 := by omega
    obtain rfl : 0 = S := hS
    refine (span_zero ao 0 w).mono ?_
    rintro en w' ⟨rfl, hw⟩
    exact ⟨0, rfl, .inr ⟨0, rfl, Nat.le_refl _, Nat.le_refl _, .inl ⟨rfl, rfl⟩⟩, hw⟩
  · obtain rfl := ha h
    exact span_any T 0 n n k0 t w hn hk0 (fun k hk => by rw [Nat.zero_add]; exact hc k hk) S hS (by rw [← hS]; exact adv_le _ _ _ _ _ hk0)

set_option maxRecDepth 100000 in
set_option maxHeartbeats 1000000 in
theorem mainK (a0 : Option Addr) (n c0 k0 : Nat) (t : Nat → Int) (w : World) (h : n ≤ 1048576) (hk0 : k0 ≤ n) (A0 : Arg w a0 n c0 t) :
    Calls Try.prog 6 #[.slice a0 n c0, .int .i64 k0] w fun e w' => e = .returned (.bool true) ∧ Below w.heap.size w w' := by
  obtain ⟨S, hS⟩ : ∃ S, adv blankB t n (n - k0) k0 = S := ⟨_, rfl⟩
  have HS : Hid (adv blankB t n (n - k0) k0 = S) := hS
  clear hS
  go_enter Try.func6, Try.ntmps6
  go_wp2_with (go_at_call 15; refine (zzK_yes _ _ _ _ _ h).mono ?_; rintro e w' ⟨rfl, hw⟩; subst w')
  refine (clone_arg a0 n c0 t _ h A0).mono ?_
  rintro e w1 ⟨ao, rfl, O0, B1⟩
  have ha : Hid (0 < n → ao = some ⟨w.heap.size, 0, none⟩) := fun hp => (O0 hp).1
  have hT : Hid (0 < n → w.heap.size < w1.heap.size) := fun hp => (O0 hp).2.lt
  have hc : Hid (∀ k, k < n → w1.cell? ⟨w.heap.size, k, none⟩ = some (.int .u8 (t k))) := fun k hk => (O0 (by omega)).2.cell hk (Nat.le_refl _)
  clear O0 A0
  go_wp2_with fail
  refine (span_all w.heap.size n k0 S ao t w1 h hk0 ha.out hc.out HS.out).mono ?_
  rintro e w' ⟨r, rfl, hr, hw⟩
  subst w'
  rcases hr with rfl | ⟨e1, rfl, l1, l2, hV⟩
  · go_wp2_with fail
    go_ret
    exact ⟨rfl, B1⟩
  · have HV : Hid (Val t n S e1) := hV
    clear hV
    go_wp2_with fail
    refine (zzskip_any w.heap.size n k0 S e1 ao t w1 h hk0 ha.out hT.out hc.out HS.out l1 l2 HV.out).mono ?_
    rintro e w2 ⟨a', cp, rfl, ha', hB2⟩
    have HA : Hid (S < e1 → a' = some ⟨w.heap.size, S, none⟩) := ha'
    have HB : Hid (Below w.heap.size w w2) := B1.trans (hB2.mono B1.size)
    have hc2 : Hid (∀ k, k < n → w2.cell? ⟨w.heap.size, k, none⟩ = some (.int .u8 (t k))) := fun k hk => (hB2.cell (p := ⟨w.heap.size, k, none⟩) (hT.out (by omega))).trans (hc.out k hk)
    clear hB2 B1 ha'
    have g1 : ((e1 : Int) != (e1 : Int)) = false := by simp
    have g2 : (((e1 - S : Nat) : Int) != (e1 : Int) - S) = false := by
      rw [bne_eq_false_iff_eq]; omega
    go_wp2_with fail
    go_loopw [9] (fun x wr => ∃ k : Nat, k ≤ e1 - S ∧ x = .int .i64 k ∧ Hid (∀ k, k < n → wr.cell? ⟨w.heap.size, k, none⟩ = some (.int .u8 (t k))) ∧ Hid (Below w.heap.size w wr)) (fun x _ => e1 - S - (intOf x).toNat)
    case atStart => exact ⟨0, Nat.zero_le _, rfl, hc2, HB⟩
    case round =>
      clear HB hc2
      obtain ⟨k, hk, rfl, hc2, HB⟩ := hrel
      by_cases hlt : k < e1 - S
      · obtain rfl := HA.out (by omega)
        obtain rfl := ha.out (by omega)
        have hcell := hc2.out (S + k) (by omega)
        have i1 : (k : Int) < ((e1 - S : Nat) : Int) := by omega
        have i2 : (S : Int) + k < n := by omega
        have i0 : (0 : Int) ≤ S + k := by omega
        go_wp2_with fail
        go_region
        all_goals go_wp2_with fail
        go_roundw
        case rel => exact ⟨k + 1, by omega, by go_num, hc2, HB.out.drew⟩
        case measure => simp [intOf]; omega
      · obtain rfl : k = e1 - S := by omega
        go_wp2_with fail
        go_ret
        exact ⟨rfl, HB.out⟩
end Go.Proofs.Qxb6605316a.Skip
