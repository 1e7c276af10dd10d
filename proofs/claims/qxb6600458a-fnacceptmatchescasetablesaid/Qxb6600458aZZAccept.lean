/-
  THE WALK of 'ZZAccept' (16).
-/
import Derived.Test.Qxb6600458aAccept
import Derived.Test.Qxb6600458aNine
import Derived.Deep.RegionHeld
namespace Go.Proofs.Qxb6600458a.Acc
open Go.RowKit

theorem below_put2 {w W : World} {j : Nat} {x : Value} (h : Below w.heap.size w W) : Below w.heap.size w (W.setCell ⟨w.heap.size + 1, j, none⟩ x) := h.setCell (p := ⟨w.heap.size + 1, j, none⟩) (show w.heap.size ≤ w.heap.size + 1 by omega) x

set_option maxRecDepth 100000 in
set_option maxHeartbeats 4000000 in
theorem zzaccept_any (n T K : Nat) (ao : Option Addr) (m nx sn rr i mx sn' : Int) (pb wt ac cu : Bool) (t : Nat → Int) (w : World) (hn : n ≤ 131072) (ha : 0 < n → ao = some ⟨T, 0, none⟩) (hT : 0 < n → T < w.heap.size)
    (hc : ∀ k, k < n → w.cell? ⟨T, k, none⟩ = some (.int .u64 (t k))) (hK : lead t n i n 0 = K)
    (mv : Bool) (hmx : (m < i ∧ i = mx ∧ true = mv) ∨ (i ≤ m ∧ m = mx ∧ false = mv)) (hsn : (sn ≤ i ∧ 0 = sn') ∨ (i < sn ∧ sn = sn')) :
    Calls Try.prog 16 #[.agg #[.int .u64 m, .int .u64 nx, .bool pb, .bool wt, .slice ao n n, .int .u64 sn, .bool ac, .bool cu, .int .u64 rr], .int .u64 i] w fun e w' => ∃ (a' : Option Addr) (c' : Nat), e = .returned (.tuple #[.agg #[.int .u64 mx, .int .u64 (nxt nx mx), .bool false, .bool false, .slice a' (n - K) c', .int .u64 sn', .bool ac, .bool cu, .int .u64 rr], .bool mv]) ∧ (K < n → a' = some ⟨T, K, none⟩) ∧ Below w.heap.size w w' := by
  have HM : Hid ((m < i ∧ i = mx ∧ true = mv) ∨ (i ≤ m ∧ m = mx ∧ false = mv)) := hmx
  have HS : Hid ((sn ≤ i ∧ 0 = sn') ∨ (i < sn ∧ sn = sn')) := hsn
  have HK : Hid (lead t n i n 0 = K) := hK
  have HA : Hid (0 < n → ao = some ⟨T, 0, none⟩) := ha
  have HT : Hid (0 < n → T < w.heap.size) := hT
  have HC : Hid (∀ k, k < n → w.cell? ⟨T, k, none⟩ = some (.int .u64 (t k))) := hc
  clear hmx hsn hK ha hT hc
  go_enter Try.func16, Try.ntmps16
  go_wp2_with fail
  have hb0 : ∀ o1 o2 o3, Below w.heap.size w (((w.alloc o1).alloc o2).alloc o3) := fun o1 o2 o3 => (((Below.refl _ w).alloc (Nat.le_refl _) o1).alloc (by simp) o2).alloc (by simp; omega) o3
  refine (accept_any (w.heap.size + 1 + 1) n T K ao m nx sn rr i mx sn' pb wt ac cu t _ hn HA.out (fun h => by have := HT.out h; omega) (by exact ⟨by go_simp, by go_simp, by go_simp, by go_simp, by go_simp, by go_simp, by go_simp, by go_simp, by go_simp, by intro j; go_simp⟩) (by exact fun k hk => ((hb0 _ _ _).cell (p := ⟨T, k, none⟩) (HT.out (by omega))).trans (HC.out k hk)) HK.out mv HM.out HS.out).mono ?_
  rintro e w1 ⟨rfl, ⟨v, hP, a', c', rfl, ha'⟩, hB1⟩
  have r0 : w1.cell? ⟨w.heap.size + 1, 0, none⟩ = some (.int .u64 0) := (hB1.cell (p := ⟨w.heap.size + 1, 0, none⟩) (show w.heap.size + 1 < w.heap.size + 1 + 1 by omega)).trans (by go_simp)
  have r1 : w1.cell? ⟨w.heap.size + 1, 1, none⟩ = some (.int .u64 0) := (hB1.cell (p := ⟨w.heap.size + 1, 1, none⟩) (show w.heap.size + 1 < w.heap.size + 1 + 1 by omega)).trans (by go_simp)
  have r2 : w1.cell? ⟨w.heap.size + 1, 2, none⟩ = some (.bool false) := (hB1.cell (p := ⟨w.heap.size + 1, 2, none⟩) (show w.heap.size + 1 < w.heap.size + 1 + 1 by omega)).trans (by go_simp)
  have r3 : w1.cell? ⟨w.heap.size + 1, 3, none⟩ = some (.bool false) := (hB1.cell (p := ⟨w.heap.size + 1, 3, none⟩) (show w.heap.size + 1 < w.heap.size + 1 + 1 by omega)).trans (by go_simp)
  have r4 : w1.cell? ⟨w.heap.size + 1, 4, none⟩ = some (.slice none 0 0) := (hB1.cell (p := ⟨w.heap.size + 1, 4, none⟩) (show w.heap.size + 1 < w.heap.size + 1 + 1 by omega)).trans (by go_simp)
  have r5 : w1.cell? ⟨w.heap.size + 1, 5, none⟩ = some (.int .u64 0) := (hB1.cell (p := ⟨w.heap.size + 1, 5, none⟩) (show w.heap.size + 1 < w.heap.size + 1 + 1 by omega)).trans (by go_simp)
  have r6 : w1.cell? ⟨w.heap.size + 1, 6, none⟩ = some (.bool false) := (hB1.cell (p := ⟨w.heap.size + 1, 6, none⟩) (show w.heap.size + 1 < w.heap.size + 1 + 1 by omega)).trans (by go_simp)
  have r7 : w1.cell? ⟨w.heap.size + 1, 7, none⟩ = some (.bool false) := (hB1.cell (p := ⟨w.heap.size + 1, 7, none⟩) (show w.heap.size + 1 < w.heap.size + 1 + 1 by omega)).trans (by go_simp)
  have r8 : w1.cell? ⟨w.heap.size + 1, 8, none⟩ = some (.int .u64 0) := (hB1.cell (p := ⟨w.heap.size + 1, 8, none⟩) (show w.heap.size + 1 < w.heap.size + 1 + 1 by omega)).trans (by go_simp)
  have fr : ∀ j, w1.frozen? ⟨w.heap.size + 1, j, none⟩ = false := fun j => (hB1.frozen (p := ⟨w.heap.size + 1, j, none⟩) (show w.heap.size + 1 < w.heap.size + 1 + 1 by omega)).trans (by go_simp)
  have HB : Hid (Below w.heap.size w w1) := (hb0 _ _ _).trans (hB1.mono (by omega))
  have HA' : Hid (K < n → a' = some ⟨T, K, none⟩) := ha'
  obtain ⟨c0, c1, c2, c3, c4, c5, c6, c7, c8, f⟩ := hP
  clear hB1 hb0 ha'
  go_wp2_with fail
  go_region_held (fun w' => w'.cell? ⟨w.heap.size + 1 + 1, 0, none⟩ = some (.int .u64 mx) ∧ w'.cell? ⟨w.heap.size + 1 + 1, 1, none⟩ = some (.int .u64 (nxt nx mx)) ∧ w'.cell? ⟨w.heap.size + 1 + 1, 2, none⟩ = some (.bool false) ∧ w'.cell? ⟨w.heap.size + 1 + 1, 3, none⟩ = some (.bool false) ∧ w'.cell? ⟨w.heap.size + 1 + 1, 4, none⟩ = some ((.slice a' (n - K) c')) ∧ w'.cell? ⟨w.heap.size + 1 + 1, 5, none⟩ = some (.int .u64 sn') ∧ w'.cell? ⟨w.heap.size + 1 + 1, 6, none⟩ = some (.bool ac) ∧ w'.cell? ⟨w.heap.size + 1 + 1, 7, none⟩ = some (.bool cu) ∧ w'.cell? ⟨w.heap.size + 1 + 1, 8, none⟩ = some (.int .u64 rr)) (go_keep) (fail)
  all_goals go_wp2_with fail
  refine bodyPost_ret (v := .tuple #[.agg #[.int .u64 mx, .int .u64 (nxt nx mx), .bool false, .bool false, .slice a' (n - K) c', .int .u64 sn', .bool ac, .bool cu, .int .u64 rr], .bool mv]) ?_ rfl ⟨a', c', rfl, HA'.out, Below.drew (below_put2 (below_put2 (below_put2 (below_put2 (below_put2 (below_put2 (below_put2 (below_put2 (below_put2 (HB.out))))))))))⟩
  obtain ⟨q0, q1, q2, q3, q4, q5, q6, q7, q8⟩ := nine w1 (w.heap.size + 1) (.int .u64 mx) (.int .u64 (nxt nx mx)) (.bool false) (.bool false) (.slice a' (n - K) c') (.int .u64 sn') (.bool ac) (.bool cu) (.int .u64 rr) r0 r1 r2 r3 r4 r5 r6 r7 r8
  exact read16 _ (w.heap.size + 1) _ mx (nxt nx mx) sn' rr ac cu mv a' (n - K) c' rfl rfl q0 q1 q2 q3 q4 q5 q6 q7 q8
end Go.Proofs.Qxb6600458a.Acc
