/-
  THE WALKS of the decoder's methods 'next' (31) and 'skipString' (32).
-/
import Derived.Test.Qxb6605316aSkipSpan
import Derived.RegionTactic
import Derived.BigRegion
namespace Go.Proofs.Qxb6605316a.Skip
open Go.RowKit

/-- The decoder in block D: its text, and its offset k. -/
def Dcd (W : World) (D : Nat) (a : Option Addr) (n k : Nat) : Prop :=
  W.cell? ⟨D, 0, none⟩ = some (.slice a n n) ∧ W.cell? ⟨D, 1, none⟩ = some (.int .i64 (k : Int)) ∧ W.frozen? ⟨D, 1, none⟩ = false
theorem Dcd.drew {W : World} {D : Nat} {a : Option Addr} {n k : Nat} (h : Dcd W D a n k) : Dcd W.drew D a n k := h
theorem Dcd.put {W : World} {D : Nat} {a : Option Addr} {n k : Nat} (h : Dcd W D a n k) {k' : Nat} {x : Int} (hx : x = (k' : Int)) : Dcd (W.setCell ⟨D, 1, none⟩ (.int .i64 x)) D a n k' := by
  subst hx
  refine ⟨?_, World.cell?_setCell_same _ _ _ h.2.1, ?_⟩
  · exact (World.cell?_setCell_other (w := W) (a := ⟨D, 1, none⟩) (b := ⟨D, 0, none⟩) (v := .int .i64 (k' : Int)) (by intro q; simp at q)).trans h.1
  · rw [World.frozen?_setCell]; exact h.2.2
theorem below_put {D : Nat} {w W : World} (h : Below D w W) (x : Value) : Below D w (W.setCell ⟨D, 1, none⟩ x) := h.setCell (p := ⟨D, 1, none⟩) (Nat.le_refl D) x
theorem blank_yes {c : Int} (h : (c == 32) = true ∨ (c == 9) = true ∨ (c == 10) = true ∨ (c == 13) = true) : blankB c = true := by
  unfold blankB
  simp only [beq_iff_eq] at h
  exact decide_eq_true h
theorem blank_no {c : Int} (h1 : (c == 32) = false) (h2 : (c == 9) = false) (h3 : (c == 10) = false) (h4 : (c == 13) = false) : blankB c = false := by
  unfold blankB
  simp only [beq_eq_false_iff_ne] at h1 h2 h3 h4
  exact decide_eq_false (by omega)
theorem Dcd.lt {W : World} {D : Nat} {a : Option Addr} {n k : Nat} (h : Dcd W D a n k) : D < W.heap.size := World.block_lt_of_cell? W _ h.1

set_option maxRecDepth 100000 in
set_option maxHeartbeats 1000000 in
/-- next. -/
theorem next_any (T D n k0 S : Nat) (a : Option Addr) (t : Nat → Int) (w : World) (hn : n ≤ 1048576) (hk0 : k0 ≤ n) (ha : 0 < n → a = some ⟨T, 0, none⟩) (hT : 0 < n → T < D)
    (hc : ∀ k, k < n → w.cell? ⟨T, k, none⟩ = some (.int .u8 (t k))) (hD : Dcd w D a n k0) (hS : Hid (adv blankB t n (n - k0) k0 = S)) :
    Calls Try.prog 31 #[.pointer (some ⟨D, 0, none⟩)] w fun e w' => ∃ c : Int, e = .returned (.int .u8 c) ∧ ((S < n ∧ c = t S) ∨ (S = n ∧ c = 0)) ∧ Dcd w' D a n S ∧ Below D w w' := by
  go_enter Try.func31, Try.ntmps31
  go_wp2_with fail
  go_loopg [] (n - k0) (fun g wr => ∃ k : Nat, k ≤ n ∧ g = n - k ∧ Dcd wr D a n k ∧ Below D w wr ∧ Hid (adv blankB t n (n - k) k = S))
  case atStart => exact ⟨k0, hk0, rfl, hD, Below.refl _ _, hS⟩
  case round =>
    obtain ⟨k, hk, rfl, hDr, hB, H⟩ := hrel
    obtain ⟨d0, d1, d2⟩ := hDr
    clear hD hS
    by_cases hlt : k < n
    · obtain rfl := ha (by omega)
      have hcell : wr.cell? ⟨T, k, none⟩ = some (.int .u8 (t k)) := (hB.cell (p := ⟨T, k, none⟩) (hT (by omega))).trans (hc k hlt)
      have i1 : (k : Int) < n := by omega
      have HDr : Hid (Dcd wr D (some ⟨T, 0, none⟩) n k) := ⟨d0, d1, d2⟩
      have HB : Hid (Below D w wr) := hB
      clear hc ha hT hB
      go_wp2_with fail
      go_region
      all_goals go_wp2_with fail
      all_goals go_region
      all_goals go_wp2_with fail
      · go_roundg (n - (k + 1))
        case rel => exact ⟨k + 1, by omega, rfl, HDr.out.put (by omega), (by repeat (first | exact HB.out | apply Below.drew | apply below_put)), (adv_go hlt (blank_yes (.inl ‹_›))).symm.trans H.out⟩
        case measure => omega
      · go_roundg (n - (k + 1))
        case rel => exact ⟨k + 1, by omega, rfl, HDr.out.put (by omega), (by repeat (first | exact HB.out | apply Below.drew | apply below_put)), (adv_go hlt (blank_yes (.inr (.inl ‹_›)))).symm.trans H.out⟩
        case measure => omega
      · go_roundg (n - (k + 1))
        case rel => exact ⟨k + 1, by omega, rfl, HDr.out.put (by omega), (by repeat (first | exact HB.out | apply Below.drew | apply below_put)), (adv_go hlt (blank_yes (.inr (.inr (.inl ‹_›))))).symm.trans H.out⟩
        case measure => omega
      · go_roundg (n - (k + 1))
        case rel => exact ⟨k + 1, by omega, rfl, HDr.out.put (by omega), (by repeat (first | exact HB.out | apply Below.drew | apply below_put)), (adv_go hlt (blank_yes (.inr (.inr (.inr ‹_›))))).symm.trans H.out⟩
        case measure => omega
      · obtain rfl : k = S := (adv_stop (blank_no ‹_› ‹_› ‹_› ‹_›) _).symm.trans H.out
        go_ret
        exact ⟨_, rfl, .inl ⟨hlt, rfl⟩, HDr.out, (by repeat (first | exact HB.out | apply Below.drew))⟩
    · obtain rfl : k = S := (adv_end hlt _).symm.trans H.out
      have HDr : Hid (Dcd wr D a n k) := ⟨d0, d1, d2⟩
      have HB : Hid (Below D w wr) := hB
      clear hc ha hT hB
      go_wp2_with fail
      go_region
      all_goals go_wp2_with fail
      all_goals go_ret
      all_goals exact ⟨_, rfl, .inr ⟨by omega, rfl⟩, HDr.out, (by repeat (first | exact HB.out | apply Below.drew))⟩

theorem SK_lt {t : Nat → Int} {n k e : Nat} (h : SK t n k = (e : Int)) : k < n := by
  by_cases hk : k < n
  · exact hk
  · rw [SK_end hk] at h; omega

set_option maxRecDepth 100000 in
set_option maxHeartbeats 1000000 in
/-- skipString, begun at an opening quote. -/
theorem skipString_any (T D n k0 e : Nat) (t : Nat → Int) (w : World) (hn : n ≤ 1048576) (hT : T < D)
    (hc : ∀ k, k < n → w.cell? ⟨T, k, none⟩ = some (.int .u8 (t k))) (hD : Dcd w D (some ⟨T, 0, none⟩) n k0) (hS : Hid (SK t n (k0 + 1) = (e : Int))) :
    Calls Try.prog 32 #[.pointer (some ⟨D, 0, none⟩)] w fun en w' => en = .returned (.tuple #[]) ∧ Dcd w' D (some ⟨T, 0, none⟩) n e ∧ Below D w w' := by
  obtain ⟨d0, d1, d2⟩ := hD
  have hk0 := SK_lt hS.out
  have HD0 : Hid (Dcd w D (some ⟨T, 0, none⟩) n k0) := ⟨d0, d1, d2⟩
  go_enter Try.func32, Try.ntmps32
  go_wp2_with fail
  go_loopg [] (n - (k0 + 1)) (fun g wr => ∃ k : Nat, k ≤ n ∧ g = n - k ∧ Dcd wr D (some ⟨T, 0, none⟩) n k ∧ Below D w wr ∧ Hid (SK t n k = (e : Int)))
  case atStart => exact ⟨k0 + 1, by omega, rfl, HD0.out.put (by omega), below_put (Below.refl _ _) _, hS⟩
  case round =>
    obtain ⟨k, hk, rfl, hDr, hB, H⟩ := hrel
    clear d0 d1 d2
    obtain ⟨d0, d1, d2⟩ := hDr
    have hlt := SK_lt H.out
    have hcell : wr.cell? ⟨T, k, none⟩ = some (.int .u8 (t k)) := (hB.cell (p := ⟨T, k, none⟩) hT).trans (hc k hlt)
    have i1 : (k : Int) < n := by omega
    have HDr : Hid (Dcd wr D (some ⟨T, 0, none⟩) n k) := ⟨d0, d1, d2⟩
    have HB : Hid (Below D w wr) := hB
    clear hc hB HD0 hS
    by_cases h34 : t k = 34
    · have e34 : (t k != 34) = false := by simp [h34]
      have HE : Hid (e = k + 1) := by have := H.out; rw [SK_quote hlt h34] at this; show e = k + 1; omega
      clear h34
      go_wp2_with fail
      go_region
      all_goals go_wp2_with fail
      go_end0
      exact ⟨rfl, HDr.out.put (by rw [HE.out]; omega), (by repeat (first | exact HB.out | apply Below.drew | apply below_put))⟩
    · have e34 : (t k != 34) = true := by simp [h34]
      by_cases h92 : t k = 92
      · have e92 : (t k == 92) = true := by simp [h92]
        have H2 : Hid (SK t n (k + 2) = (e : Int)) := (SK_esc hlt h92).symm.trans H.out
        have hlt2 := SK_lt H2.out
        clear h34 h92
        go_wp2_with fail
        go_region
        all_goals go_wp2_with fail
        go_region
        all_goals go_wp2_with fail
        go_roundg (n - (k + 2))
        case rel => exact ⟨k + 2, by omega, rfl, (HDr.out.put (k' := k + 1) (by omega)).put (by omega), (by repeat (first | exact HB.out | apply Below.drew | apply below_put)), H2⟩
        case measure => omega
      · have e92 : (t k == 92) = false := by simp [h92]
        have H2 : Hid (SK t n (k + 1) = (e : Int)) := (SK_other hlt h34 h92).symm.trans H.out
        clear h34 h92
        go_wp2_with fail
        go_region
        all_goals go_wp2_with fail
        go_region
        all_goals go_wp2_with fail
        go_roundg (n - (k + 1))
        case rel => exact ⟨k + 1, by omega, rfl, HDr.out.put (by omega), (by repeat (first | exact HB.out | apply Below.drew | apply below_put)), H2⟩
        case measure => omega
end Go.Proofs.Qxb6605316a.Skip
