/-
  THE WALKS of 'skip' (28) at the text's end, of 'ZZSkip' (17).
-/
import Derived.Test.Qxb6605316aSkipSkip
namespace Go.Proofs.Qxb6605316a.Skip
open Go.RowKit

set_option maxRecDepth 100000 in
set_option maxHeartbeats 4000000 in
/-- Nothing but whitespace up to the end. -/
theorem skip_end (T D n k0 : Nat) (ao : Option Addr) (t : Nat → Int) (w : World) (hn : n ≤ 1048576) (hk0 : k0 ≤ n) (ha : 0 < n → ao = some ⟨T, 0, none⟩) (hT : 0 < n → T < D)
    (hc : ∀ k, k < n → w.cell? ⟨T, k, none⟩ = some (.int .u8 (t k))) (hD : Dcd w D ao n k0) (hS : Hid (adv blankB t n (n - k0) k0 = n)) :
    Calls Try.prog 28 #[.pointer (some ⟨D, 0, none⟩)] w fun en w' => ∃ (a' : Option Addr) (cp : Nat), en = .returned (.slice a' 0 cp) ∧ Dcd w' D ao n n ∧ Below D w w' := by
  cases ao with
  | none =>
    obtain rfl : n = 0 := by
      rcases Nat.eq_zero_or_pos n with h | h
      · exact h
      · cases ha h
    go_enter Try.func28, Try.ntmps28
    go_wp2_with fail
    refine (next_any T D 0 k0 0 none t w hn hk0 ha hT hc hD hS).mono ?_
    rintro en w1 ⟨cv, rfl, hcv, hD1, hB1⟩
    obtain rfl : cv = 0 := by
      rcases hcv with ⟨h, _⟩ | ⟨_, h⟩
      · omega
      · exact h
    have HD1 : Hid (Dcd w1 D none 0 0) := hD1
    obtain ⟨d0, d1, d2⟩ := hD1
    have HB1 : Hid (Below D w w1) := hB1
    clear hcv hc hD hS hB1 ha hT
    go_wp2_with fail
    refine wp_loop_rounds 1 ?_
    rw [rounds_succ]
    go_wp2_with fail
    go_region
    all_goals go_wp2_with fail
    go_region
    all_goals go_wp2_with fail
    go_ret
    exact ⟨_, _, rfl, HD1.out, (by repeat (first | exact HB1.out | apply Below.drew | apply below_put))⟩
  | some ad =>
    go_enter Try.func28, Try.ntmps28
    go_wp2_with fail
    refine (next_any T D n k0 n (some ad) t w hn hk0 ha hT hc hD hS).mono ?_
    rintro en w1 ⟨cv, rfl, hcv, hD1, hB1⟩
    obtain rfl : cv = 0 := by
      rcases hcv with ⟨h, _⟩ | ⟨_, h⟩
      · omega
      · exact h
    have HD1 : Hid (Dcd w1 D (some ad) n n) := hD1
    obtain ⟨d0, d1, d2⟩ := hD1
    have HB1 : Hid (Below D w w1) := hB1
    clear hcv hc hD hS hB1 ha hT
    go_wp2_with fail
    refine wp_loop_rounds 1 ?_
    rw [rounds_succ]
    go_wp2_with fail
    go_region
    all_goals go_wp2_with fail
    go_region
    all_goals go_wp2_with fail
    go_ret
    exact ⟨_, _, ret_slice (by omega), HD1.out, (by repeat (first | exact HB1.out | apply Below.drew | apply below_put))⟩

/-- skip, wherever the value ends inside the text. -/
theorem skip_all (T D n k0 S e : Nat) (ao : Option Addr) (t : Nat → Int) (w : World) (hn : n ≤ 1048576) (hk0 : k0 ≤ n) (ha : 0 < n → ao = some ⟨T, 0, none⟩) (hT : 0 < n → T < D)
    (hc : ∀ k, k < n → w.cell? ⟨T, k, none⟩ = some (.int .u8 (t k))) (hD : Dcd w D ao n k0) (hS : adv blankB t n (n - k0) k0 = S) (hSe : S ≤ e) (hen : e ≤ n) (hV : Val t n S e) :
    Calls Try.prog 28 #[.pointer (some ⟨D, 0, none⟩)] w fun en w' => ∃ (a' : Option Addr) (cp : Nat), en = .returned (.slice a' (e - S) cp) ∧ (S < e → a' = some ⟨T, S, none⟩) ∧ Dcd w' D ao n e ∧ Below D w w' := by
  rcases hV with ⟨e1, e2⟩ | ⟨hlt, h34, hE⟩ | ⟨hlt, ho, hB⟩ | ⟨hlt, h34, ho, hE⟩
  · refine (skip_end T D n k0 ao t w hn hk0 ha hT hc hD (hS.trans e1)).mono ?_
    rintro en w' ⟨a', cp, rfl, h1, h2⟩
    exact ⟨a', cp, by rw [e1, e2, Nat.sub_self], fun h => by omega, by rw [e2]; exact h1, h2⟩
  · obtain rfl := ha (by omega)
    refine (skip_str T D n k0 S e t w hn hk0 (hT (by omega)) hc hD hS hlt h34 hE hSe hen).mono ?_
    rintro en w' ⟨cp, rfl, h1, h2⟩
    exact ⟨_, cp, rfl, fun _ => rfl, h1, h2⟩
  · obtain rfl := ha (by omega)
    obtain ⟨G, hG⟩ := Box_whole hlt ho hB
    refine (skip_box T D n k0 S e G t w hn hk0 (hT (by omega)) hc hD hS hlt (t S) rfl ho hG hSe hen).mono ?_
    rintro en w' ⟨cp, rfl, h1, h2⟩
    exact ⟨_, cp, rfl, fun _ => rfl, h1, h2⟩
  · obtain rfl := ha (by omega)
    refine (skip_scalar T D n k0 S e t w hn hk0 (hT (by omega)) hc hD hS hlt (t S) rfl (by simp [h34]) (by simp; omega) (by simp; omega) hE.symm hSe hen).mono ?_
    rintro en w' ⟨cp, rfl, h1, h2⟩
    exact ⟨_, cp, rfl, fun _ => rfl, h1, h2⟩

set_option maxRecDepth 100000 in
/-- ZZSkip. -/
theorem zzskip_any (T n k0 S e : Nat) (ao : Option Addr) (t : Nat → Int) (w : World) (hn : n ≤ 1048576) (hk0 : k0 ≤ n) (ha : 0 < n → ao = some ⟨T, 0, none⟩) (hT : 0 < n → T < w.heap.size)
    (hc : ∀ k, k < n → w.cell? ⟨T, k, none⟩ = some (.int .u8 (t k))) (hS : adv blankB t n (n - k0) k0 = S) (hSe : S ≤ e) (hen : e ≤ n) (hV : Val t n S e) :
    Calls Try.prog 17 #[.slice ao n n, .int .i64 k0] w fun en w' => ∃ (a' : Option Addr) (cp : Nat), en = .returned (.tuple #[.slice a' (e - S) cp, .int .i64 e]) ∧ (S < e → a' = some ⟨T, S, none⟩) ∧ Below w.heap.size w w' := by
  have HS : Hid (adv blankB t n (n - k0) k0 = S) := hS
  have HV : Hid (Val t n S e) := hV
  clear hS hV
  go_enter Try.func17, Try.ntmps17
  go_wp2_with fail
  have hb0 : ∀ o, Below w.heap.size w (w.alloc o) := fun o => (Below.refl _ w).alloc (Nat.le_refl _) o
  refine (skip_all T w.heap.size n k0 S e ao t _ hn hk0 ha hT (by exact fun k hk => ((hb0 _).cell (p := ⟨T, k, none⟩) (hT (by omega))).trans (hc k hk)) (by exact ⟨by simp, by simp, by simp⟩) HS.out hSe hen HV.out).mono ?_
  rintro en w2 ⟨a', cp, rfl, ha', hD2, hB2⟩
  have hB3 : Below w.heap.size w w2 := (hb0 _).trans hB2
  obtain ⟨d0, d1, d2⟩ := hD2
  have HB3 : Hid (Below w.heap.size w w2) := hB3
  have HA : Hid (S < e → a' = some ⟨T, S, none⟩) := ha'
  clear hB2 hb0 hB3 ha' hc
  go_wp2_with fail
  go_region
  all_goals go_wp2_with fail
  go_ret2
  exact ⟨a', cp, rfl, HA.out, (by repeat (first | exact HB3.out | apply Below.drew))⟩
end Go.Proofs.Qxb6605316a.Skip
