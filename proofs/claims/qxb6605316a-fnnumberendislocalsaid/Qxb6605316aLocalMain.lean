/-
  THE WALK of 'FnNumberEndIsLocal' (5): the way through.
-/
import Derived.Test.Qxb6605316aLocalWalk
namespace Go.Proofs.Qxb6605316a.Local
open Go.RowKit
open Num Cl

theorem zznum_is (b n c a : Nat) (t : Nat → Int) (w : World) (E : Int) (hn : n ≤ 1048576) (ha : a < n) (hc : ∀ k, k < n → w.cell? ⟨b, k, none⟩ = some (.int .u8 (t k))) (hE : numEnd t n a = E) (x : Int) (hx : x = a) :
    Calls Try.prog 12 #[.slice (some ⟨b, 0, none⟩) n c, .int .i64 x] w fun e w' => e = .returned (.int .i64 E) ∧ w' = w := by
  subst hE
  subst hx
  exact zznum_any b 0 n c a t w hn ha (fun k hk => by rw [Nat.zero_add]; exact hc k hk)

set_option maxRecDepth 100000 in
set_option maxHeartbeats 1000000 in
theorem main_no (a0 a1 : Option Addr) (n0 c0 n1 c1 a : Nat) (t0 t1 : Nat → Int) (w : World) (h : n0 + n1 ≤ 1048576) (ha : a < n1) (A0 : Arg w a0 n0 c0 t0) (A1 : Arg w a1 n1 c1 t1)
    (E1 : Hid (numEnd t1 n1 a = -1)) (E2 : Hid (numEnd (J n0 t0 t1) (n0 + n1) (n0 + a) = -1)) :
    Calls Try.prog 5 #[.slice a0 n0 c0, .slice a1 n1 c1, .int .i64 a] w fun e w' => e = .returned (.bool true) ∧ Below w.heap.size w w' := by
  have g0 : ¬ (1048576 : Int) < n0 := by omega
  have g1 : ¬ (1048576 : Int) < n1 := by omega
  have g2 : ¬ (1048576 : Int) < n0 + n1 := by omega
  obtain ⟨i0, hi, hz0, hz1, hz2⟩ := info_parts info5
  go_enter Try.func5, Try.ntmps5
  go_wp2_with (go_at_call 14; refine (zz_yes _ _ _ _ _ _ _ _ h).mono ?_; rintro e w' ⟨rfl, hw⟩; subst w')
  refine (clone_arg a0 n0 c0 t0 _ (by omega) A0).mono ?_
  rintro e w1 ⟨a0', rfl, O0, B1⟩
  go_wp2_with fail
  refine (clone_arg a1 n1 c1 t1 _ (by omega) (A1.kept B1)).mono ?_
  rintro e w2 ⟨a1', rfl, O1', B2⟩
  obtain ⟨rfl, O1⟩ := O1' (by omega)
  clear O1' A0 A1
  go_wp2_with fail
  refine (zznum_is w1.heap.size n1 n1 a t1 w2 (-1) (by omega) ha (fun k hk => O1.cell hk (Nat.le_refl _)) E1.out _ rfl).mono ?_
  rintro e w' ⟨rfl, hw⟩
  subst w'
  go_wp2_with (at_make; refine wpList_make_full _ rfl _ _ 23 rfl w2.heap.size 5 i0 (.int .u8 0) 1 Try.underlying23 hi hz0 hz1 _ _ _ _ (n0 + n1) rfl rfl (by omega) (by omega) (by rw [hz2]; omega) (by unfold maxLen; omega) (Nat.le_refl _) ?_; intro w3 hown hgrow)
  have hO : Own w3 w2.heap.size (n0 + n1) 0 (J n0 t0 t1) := ⟨_, by assumption, fun j hj => by omega⟩
  have hB : Below w2.heap.size w2 w3 := (Below.refl _ _).grown (by assumption) (Nat.le_refl _) (fun k hk => by cases hk)
  clear hown hgrow hi hz0 hz1 hz2
  have L1 : w1.heap.size < w2.heap.size := O1.lt
  have ht : ∀ k, k < n1 → w2.cell? ⟨w1.heap.size, k, none⟩ = some (.int .u8 (t1 k)) := fun k hk => O1.cell hk (Nat.le_refl _)
  have hp : ∀ k, k < n0 → a0' = some ⟨w.heap.size, 0, none⟩ ∧ w.heap.size < w2.heap.size ∧ w2.cell? ⟨w.heap.size, k, none⟩ = some (.int .u8 (t0 k)) := by
    intro k hk
    obtain ⟨e1, o⟩ := O0 (by omega)
    exact ⟨e1, by have := o.lt; omega, (o.kept B2 o.lt).cell hk (Nat.le_refl _)⟩
  have B12 : Below w.heap.size w w2 := B1.trans (B2.mono B1.size)
  clear O0 O1 B1 B2
  go_loopw [9] (fun x wr => ∃ k : Nat, k ≤ n0 ∧ x = .int .i64 k ∧ Own wr w2.heap.size (n0 + n1) k (J n0 t0 t1) ∧ Below w2.heap.size w2 wr) (fun x _ => n0 - (intOf x).toNat)
  case atStart => exact ⟨0, Nat.zero_le _, rfl, hO, hB⟩
  case round =>
    clear hO hB
    obtain ⟨k, hk, rfl, hO, hB⟩ := hrel
    by_cases hlt : k < n0
    · obtain ⟨rfl, hl, hcc⟩ := hp k hlt
      have hcell : wr.cell? ⟨w.heap.size, k, none⟩ = some (.int .u8 (t0 k)) := (hB.cell (p := ⟨w.heap.size, k, none⟩) hl).trans hcc
      obtain ⟨v0, hv0⟩ := hO.some (j := k) (by omega)
      have hfr := hO.free k
      have hO2 := hO.store (by omega)
      rw [J_lo hlt] at hO2
      have hB2 : Below w2.heap.size w2 (wr.setCell ⟨w2.heap.size, k, none⟩ (.int .u8 (t0 k))) := hB.setCell (Nat.le_refl _) _
      clear hO hB hcc hp ht
      go_wp2_with fail
      go_roundw
      case rel => exact ⟨k + 1, by omega, by go_num, hO2, hB2⟩
      case measure => simp [intOf]; omega
    · obtain rfl : n0 = k := by omega
      clear hp
      go_wp2_with fail
      go_loopw [10] (fun x wr => ∃ k : Nat, k ≤ n1 ∧ x = .int .i64 k ∧ Own wr w2.heap.size (n0 + n1) (n0 + k) (J n0 t0 t1) ∧ Below w2.heap.size w2 wr) (fun x _ => n1 - (intOf x).toNat)
      case atStart => exact ⟨0, Nat.zero_le _, rfl, hO, hB⟩
      case round =>
        clear hO hB
        obtain ⟨k, hk, rfl, hO, hB⟩ := hrel
        by_cases hlt : k < n1
        · have hcell : wr.cell? ⟨w1.heap.size, k, none⟩ = some (.int .u8 (t1 k)) := (hB.cell (p := ⟨w1.heap.size, k, none⟩) L1).trans (ht k hlt)
          obtain ⟨v0, hv0⟩ := hO.some (j := n0 + k) (by omega)
          have hfr := hO.free (n0 + k)
          have hO2 := hO.store (by omega)
          rw [J_hi k] at hO2
          have hB2 : Below w2.heap.size w2 (wr.setCell ⟨w2.heap.size, n0 + k, none⟩ (.int .u8 (t1 k))) := hB.setCell (Nat.le_refl _) _
          clear hO hB ht
          go_wp2_with fail
          go_roundw
          case rel => exact ⟨k + 1, by omega, by go_num, hO2, hB2⟩
          case measure => simp [intOf]; omega
        · obtain rfl : n1 = k := by omega
          go_wp2_with fail
          refine (zznum_is w2.heap.size (n0 + n1) (n0 + n1) (n0 + a) (J n0 t0 t1) wr (-1) h (by omega) (fun k hk => hO.cell hk (Nat.le_refl _)) E2.out _ (by omega)).mono ?_
          rintro e w' ⟨rfl, hw⟩
          subst w'
          go_wp2_with fail
          go_ret
          exact ⟨rfl, B12.trans (hB.mono B12.size)⟩
set_option maxRecDepth 100000 in
set_option maxHeartbeats 1000000 in
theorem main_yes (a0 a1 : Option Addr) (n0 c0 n1 c1 a m : Nat) (hm1 : a < m) (hm2 : m ≤ n1) (t0 t1 : Nat → Int) (w : World) (h : n0 + n1 ≤ 1048576) (ha : a < n1) (A0 : Arg w a0 n0 c0 t0) (A1 : Arg w a1 n1 c1 t1)
    (E1 : Hid (numEnd t1 n1 a = (m : Int))) (E2 : Hid (numEnd (J n0 t0 t1) (n0 + n1) (n0 + a) = (m : Int) + n0)) (E3 : Hid (numEnd t1 m a = (m : Int))) :
    Calls Try.prog 5 #[.slice a0 n0 c0, .slice a1 n1 c1, .int .i64 a] w fun e w' => e = .returned (.bool true) ∧ Below w.heap.size w w' := by
  have g0 : ¬ (1048576 : Int) < n0 := by omega
  have g1 : ¬ (1048576 : Int) < n1 := by omega
  have g2 : ¬ (1048576 : Int) < n0 + n1 := by omega
  obtain ⟨i0, hi, hz0, hz1, hz2⟩ := info_parts info5
  go_enter Try.func5, Try.ntmps5
  go_wp2_with (go_at_call 14; refine (zz_yes _ _ _ _ _ _ _ _ h).mono ?_; rintro e w' ⟨rfl, hw⟩; subst w')
  refine (clone_arg a0 n0 c0 t0 _ (by omega) A0).mono ?_
  rintro e w1 ⟨a0', rfl, O0, B1⟩
  go_wp2_with fail
  refine (clone_arg a1 n1 c1 t1 _ (by omega) (A1.kept B1)).mono ?_
  rintro e w2 ⟨a1', rfl, O1', B2⟩
  obtain ⟨rfl, O1⟩ := O1' (by omega)
  clear O1' A0 A1
  go_wp2_with fail
  refine (zznum_is w1.heap.size n1 n1 a t1 w2 (m : Int) (by omega) ha (fun k hk => O1.cell hk (Nat.le_refl _)) E1.out _ rfl).mono ?_
  rintro e w' ⟨rfl, hw⟩
  subst w'
  go_wp2_with (at_make; refine wpList_make_full _ rfl _ _ 23 rfl w2.heap.size 5 i0 (.int .u8 0) 1 Try.underlying23 hi hz0 hz1 _ _ _ _ (n0 + n1) rfl rfl (by omega) (by omega) (by rw [hz2]; omega) (by unfold maxLen; omega) (Nat.le_refl _) ?_; intro w3 hown hgrow)
  have hO : Own w3 w2.heap.size (n0 + n1) 0 (J n0 t0 t1) := ⟨_, by assumption, fun j hj => by omega⟩
  have hB : Below w2.heap.size w2 w3 := (Below.refl _ _).grown (by assumption) (Nat.le_refl _) (fun k hk => by cases hk)
  clear hown hgrow hi hz0 hz1 hz2
  have L1 : w1.heap.size < w2.heap.size := O1.lt
  have ht : ∀ k, k < n1 → w2.cell? ⟨w1.heap.size, k, none⟩ = some (.int .u8 (t1 k)) := fun k hk => O1.cell hk (Nat.le_refl _)
  have hp : ∀ k, k < n0 → a0' = some ⟨w.heap.size, 0, none⟩ ∧ w.heap.size < w2.heap.size ∧ w2.cell? ⟨w.heap.size, k, none⟩ = some (.int .u8 (t0 k)) := by
    intro k hk
    obtain ⟨e1, o⟩ := O0 (by omega)
    exact ⟨e1, by have := o.lt; omega, (o.kept B2 o.lt).cell hk (Nat.le_refl _)⟩
  have B12 : Below w.heap.size w w2 := B1.trans (B2.mono B1.size)
  clear O0 O1 B1 B2
  go_loopw [9] (fun x wr => ∃ k : Nat, k ≤ n0 ∧ x = .int .i64 k ∧ Own wr w2.heap.size (n0 + n1) k (J n0 t0 t1) ∧ Below w2.heap.size w2 wr) (fun x _ => n0 - (intOf x).toNat)
  case atStart => exact ⟨0, Nat.zero_le _, rfl, hO, hB⟩
  case round =>
    clear hO hB
    obtain ⟨k, hk, rfl, hO, hB⟩ := hrel
    by_cases hlt : k < n0
    · obtain ⟨rfl, hl, hcc⟩ := hp k hlt
      have hcell : wr.cell? ⟨w.heap.size, k, none⟩ = some (.int .u8 (t0 k)) := (hB.cell (p := ⟨w.heap.size, k, none⟩) hl).trans hcc
      obtain ⟨v0, hv0⟩ := hO.some (j := k) (by omega)
      have hfr := hO.free k
      have hO2 := hO.store (by omega)
      rw [J_lo hlt] at hO2
      have hB2 : Below w2.heap.size w2 (wr.setCell ⟨w2.heap.size, k, none⟩ (.int .u8 (t0 k))) := hB.setCell (Nat.le_refl _) _
      clear hO hB hcc hp ht
      go_wp2_with fail
      go_roundw
      case rel => exact ⟨k + 1, by omega, by go_num, hO2, hB2⟩
      case measure => simp [intOf]; omega
    · obtain rfl : n0 = k := by omega
      clear hp
      go_wp2_with fail
      go_loopw [10] (fun x wr => ∃ k : Nat, k ≤ n1 ∧ x = .int .i64 k ∧ Own wr w2.heap.size (n0 + n1) (n0 + k) (J n0 t0 t1) ∧ Below w2.heap.size w2 wr) (fun x _ => n1 - (intOf x).toNat)
      case atStart => exact ⟨0, Nat.zero_le _, rfl, hO, hB⟩
      case round =>
        clear hO hB
        obtain ⟨k, hk, rfl, hO, hB⟩ := hrel
        by_cases hlt : k < n1
        · have hcell : wr.cell? ⟨w1.heap.size, k, none⟩ = some (.int .u8 (t1 k)) := (hB.cell (p := ⟨w1.heap.size, k, none⟩) L1).trans (ht k hlt)
          obtain ⟨v0, hv0⟩ := hO.some (j := n0 + k) (by omega)
          have hfr := hO.free (n0 + k)
          have hO2 := hO.store (by omega)
          rw [J_hi k] at hO2
          have hB2 : Below w2.heap.size w2 (wr.setCell ⟨w2.heap.size, n0 + k, none⟩ (.int .u8 (t1 k))) := hB.setCell (Nat.le_refl _) _
          clear hO hB ht
          go_wp2_with fail
          go_roundw
          case rel => exact ⟨k + 1, by omega, by go_num, hO2, hB2⟩
          case measure => simp [intOf]; omega
        · obtain rfl : n1 = k := by omega
          go_wp2_with fail
          refine (zznum_is w2.heap.size (n0 + n1) (n0 + n1) (n0 + a) (J n0 t0 t1) wr ((m : Int) + n0) h (by omega) (fun k hk => hO.cell hk (Nat.le_refl _)) E2.out _ (by omega)).mono ?_
          rintro e w' ⟨rfl, hw⟩
          subst w'
          go_wp2_with fail
          refine (zznum_is w1.heap.size m n1 a t1 wr (m : Int) (by omega) hm1 (fun k hk => (hB.cell (p := ⟨w1.heap.size, k, none⟩) L1).trans (ht k (by omega))) E3.out _ rfl).mono ?_
          rintro e w' ⟨rfl, hw⟩
          subst w'
          go_wp2_with fail
          go_ret
          exact ⟨rfl, B12.trans (hB.mono B12.size)⟩
end Go.Proofs.Qxb6605316a.Local
