/-
  THE WALK of 'snnPattern' (9).
-/
import Derived.Test.Qxb6605316aSnnLit
namespace Go.Proofs.Qxb6605316a.Snn
open Go.RowKit

abbrev L7 : ByteArray := ⟨#[53, 71, 58, 78, 83, 87, 79]⟩
abbrev LA : ByteArray := ⟨#[53, 71, 58, 109, 110, 99]⟩
abbrev LB : ByteArray := ⟨#[46, 109, 99, 99]⟩
abbrev LC : ByteArray := ⟨#[46, 51, 103, 112, 112, 110, 101, 116, 119, 111, 114, 107, 46, 111, 114, 103]⟩
abbrev LD : ByteArray := ⟨#[58]⟩

/-- snnPattern at 32 and 44 bytes. -/
def patB (s : ByteArray) : Bool := (litB s 0 LA && (decB s 6 3 && (litB s 9 LB && (decB s 13 3 && litB s 16 LC)))) && (decide (s.size = 32) || (litB s 32 LD && hexB s 33 11))

theorem lit_is (s l : ByteArray) (a : Nat) (x : Int) (hx : x = a) (b : Bool) (w : World) (hs : s.size ≤ 1048576) (h : a + l.size ≤ s.size) (hb : litB s a l = b) :
    Calls Try.prog 19 #[.string s, .int .i64 x, .string l] w fun e w' => e = .returned (.bool b) ∧ Below w.heap.size w w' := by
  subst hb
  exact lit_any s l a x hx w hs h
theorem dec_is (s : ByteArray) (a n : Nat) (x y : Int) (hx : x = a) (hy : y = n) (b : Bool) (w : World) (hs : s.size ≤ 1048576) (h : a + n ≤ s.size) (hb : decB s a n = b) :
    Calls Try.prog 20 #[.string s, .int .i64 x, .int .i64 y] w fun e w' => e = .returned (.bool b) ∧ Below w.heap.size w w' := by
  subst hb
  exact dec_any s a n x y hx hy w hs h
theorem hex_is (s : ByteArray) (a n : Nat) (x y : Int) (hx : x = a) (hy : y = n) (b : Bool) (w : World) (hs : s.size ≤ 1048576) (h : a + n ≤ s.size) (hb : hexB s a n = b) :
    Calls Try.prog 21 #[.string s, .int .i64 x, .int .i64 y] w fun e w' => e = .returned (.bool b) ∧ Below w.heap.size w w' := by
  subst hb
  exact hex_any s a n x y hx hy w hs h

theorem pat7_any (s : ByteArray) (w : World) (h : s.size = 7) :
    Calls Try.prog 9 #[.string s] w fun e w' => e = .returned (.bool (litB s 0 L7)) ∧ Below w.heap.size w w' := by
  have g : ((s.size : Int) == 7) = true := by rw [h]; rfl
  go_enter Try.func9, Try.ntmps9
  go_wp2_with fail
  refine (lit_any s L7 0 0 rfl _ (by omega) (by rw [h]; decide)).mono ?_
  rintro e w1 ⟨rfl, hB⟩
  go_wp2_with fail
  go_ret
  exact ⟨rfl, hB⟩
theorem patnot_any (s : ByteArray) (w : World) (h7 : ((s.size : Int) == 7) = false) (h32 : ((s.size : Int) != 32) = true) (h44 : ((s.size : Int) != 44) = true) :
    Calls Try.prog 9 #[.string s] w fun e w' => e = .returned (.bool false) ∧ Below w.heap.size w w' := by
  go_enter Try.func9, Try.ntmps9
  go_wp2_with fail
  go_ret
  exact ⟨rfl, Below.refl _ _⟩

set_option maxHeartbeats 1000000 in
set_option maxRecDepth 100000 in
theorem pat32_any (s : ByteArray) (w : World) (h : s.size = 32) :
    Calls Try.prog 9 #[.string s] w fun e w' => e = .returned (.bool (patB s)) ∧ Below w.heap.size w w' := by
  have H : Hid (s.size = 32) := h
  have hle : s.size ≤ 1048576 := by omega
  have g7 : ((s.size : Int) == 7) = false := by rw [h]; rfl
  have g32 : ((s.size : Int) != 32) = false := by rw [h]; rfl
  have g32e : ((s.size : Int) == 32) = true := by rw [h]; rfl
  clear h
  go_enter Try.func9, Try.ntmps9
  go_wp2_with fail
  have B0 : Below w.heap.size w w := Below.refl _ _
  rcases (Bool.eq_false_or_eq_true (litB s 0 LA)).symm with hA | hA
  · refine (lit_is s LA 0 0 rfl false _ (by omega) (by rw [H.out]; decide) hA).mono ?_
    rintro e w1 ⟨rfl, hb1⟩
    have B1 : Below w.heap.size w w1 := B0.trans (hb1.mono B0.size)
    go_wp2_with fail
    go_ret
    exact ⟨ret_bool (by simp [patB, H.out, hA]), B1⟩
  · refine (lit_is s LA 0 0 rfl true _ (by omega) (by rw [H.out]; decide) hA).mono ?_
    rintro e w1 ⟨rfl, hb1⟩
    have B1 : Below w.heap.size w w1 := B0.trans (hb1.mono B0.size)
    go_wp2_with fail
    rcases (Bool.eq_false_or_eq_true (decB s 6 3)).symm with h6 | h6
    · refine (dec_is s 6 3 6 3 rfl rfl false _ (by omega) (by rw [H.out]; decide) h6).mono ?_
      rintro e w2 ⟨rfl, hb2⟩
      have B2 : Below w.heap.size w w2 := B1.trans (hb2.mono B1.size)
      go_wp2_with fail
      go_ret
      exact ⟨ret_bool (by simp [patB, H.out, hA, h6]), B2⟩
    · refine (dec_is s 6 3 6 3 rfl rfl true _ (by omega) (by rw [H.out]; decide) h6).mono ?_
      rintro e w2 ⟨rfl, hb2⟩
      have B2 : Below w.heap.size w w2 := B1.trans (hb2.mono B1.size)
      go_wp2_with fail
      rcases (Bool.eq_false_or_eq_true (litB s 9 LB)).symm with hB9 | hB9
      · refine (lit_is s LB 9 9 rfl false _ (by omega) (by rw [H.out]; decide) hB9).mono ?_
        rintro e w3 ⟨rfl, hb3⟩
        have B3 : Below w.heap.size w w3 := B2.trans (hb3.mono B2.size)
        go_wp2_with fail
        go_ret
        exact ⟨ret_bool (by simp [patB, H.out, hA, h6, hB9]), B3⟩
      · refine (lit_is s LB 9 9 rfl true _ (by omega) (by rw [H.out]; decide) hB9).mono ?_
        rintro e w3 ⟨rfl, hb3⟩
        have B3 : Below w.heap.size w w3 := B2.trans (hb3.mono B2.size)
        go_wp2_with fail
        rcases (Bool.eq_false_or_eq_true (decB s 13 3)).symm with h13 | h13
        · refine (dec_is s 13 3 13 3 rfl rfl false _ (by omega) (by rw [H.out]; decide) h13).mono ?_
          rintro e w4 ⟨rfl, hb4⟩
          have B4 : Below w.heap.size w w4 := B3.trans (hb4.mono B3.size)
          go_wp2_with fail
          go_ret
          exact ⟨ret_bool (by simp [patB, H.out, hA, h6, hB9, h13]), B4⟩
        · refine (dec_is s 13 3 13 3 rfl rfl true _ (by omega) (by rw [H.out]; decide) h13).mono ?_
          rintro e w4 ⟨rfl, hb4⟩
          have B4 : Below w.heap.size w w4 := B3.trans (hb4.mono B3.size)
          go_wp2_with fail
          rcases Bool.eq_false_or_eq_true (litB s 16 LC) with hC | hC
          · refine (lit_is s LC 16 16 rfl true _ (by omega) (by rw [H.out]; decide) hC).mono ?_
            rintro e w5 ⟨rfl, hb5⟩
            have B5 : Below w.heap.size w w5 := B4.trans (hb5.mono B4.size)
            go_wp2_with fail
            go_ret
            exact ⟨ret_bool (by simp [patB, H.out, hA, h6, hB9, h13, hC]), B5⟩
          · refine (lit_is s LC 16 16 rfl false _ (by omega) (by rw [H.out]; decide) hC).mono ?_
            rintro e w5 ⟨rfl, hb5⟩
            have B5 : Below w.heap.size w w5 := B4.trans (hb5.mono B4.size)
            go_wp2_with fail
            go_ret
            exact ⟨ret_bool (by simp [patB, H.out, hA, h6, hB9, h13, hC]), B5⟩

set_option maxHeartbeats 1000000 in
set_option maxRecDepth 100000 in
theorem pat44_any (s : ByteArray) (w : World) (h : s.size = 44) :
    Calls Try.prog 9 #[.string s] w fun e w' => e = .returned (.bool (patB s)) ∧ Below w.heap.size w w' := by
  have H : Hid (s.size = 44) := h
  have hle : s.size ≤ 1048576 := by omega
  have g7 : ((s.size : Int) == 7) = false := by rw [h]; rfl
  have g32 : ((s.size : Int) != 32) = true := by rw [h]; rfl
  have g44 : ((s.size : Int) != 44) = false := by rw [h]; rfl
  have g32e : ((s.size : Int) == 32) = false := by rw [h]; rfl
  clear h
  go_enter Try.func9, Try.ntmps9
  go_wp2_with fail
  have B0 : Below w.heap.size w w := Below.refl _ _
  rcases (Bool.eq_false_or_eq_true (litB s 0 LA)).symm with hA | hA
  · refine (lit_is s LA 0 0 rfl false _ (by omega) (by rw [H.out]; decide) hA).mono ?_
    rintro e w1 ⟨rfl, hb1⟩
    have B1 : Below w.heap.size w w1 := B0.trans (hb1.mono B0.size)
    go_wp2_with fail
    go_ret
    exact ⟨ret_bool (by simp [patB, H.out, hA]), B1⟩
  · refine (lit_is s LA 0 0 rfl true _ (by omega) (by rw [H.out]; decide) hA).mono ?_
    rintro e w1 ⟨rfl, hb1⟩
    have B1 : Below w.heap.size w w1 := B0.trans (hb1.mono B0.size)
    go_wp2_with fail
    rcases (Bool.eq_false_or_eq_true (decB s 6 3)).symm with h6 | h6
    · refine (dec_is s 6 3 6 3 rfl rfl false _ (by omega) (by rw [H.out]; decide) h6).mono ?_
      rintro e w2 ⟨rfl, hb2⟩
      have B2 : Below w.heap.size w w2 := B1.trans (hb2.mono B1.size)
      go_wp2_with fail
      go_ret
      exact ⟨ret_bool (by simp [patB, H.out, hA, h6]), B2⟩
    · refine (dec_is s 6 3 6 3 rfl rfl true _ (by omega) (by rw [H.out]; decide) h6).mono ?_
      rintro e w2 ⟨rfl, hb2⟩
      have B2 : Below w.heap.size w w2 := B1.trans (hb2.mono B1.size)
      go_wp2_with fail
      rcases (Bool.eq_false_or_eq_true (litB s 9 LB)).symm with hB9 | hB9
      · refine (lit_is s LB 9 9 rfl false _ (by omega) (by rw [H.out]; decide) hB9).mono ?_
        rintro e w3 ⟨rfl, hb3⟩
        have B3 : Below w.heap.size w w3 := B2.trans (hb3.mono B2.size)
        go_wp2_with fail
        go_ret
        exact ⟨ret_bool (by simp [patB, H.out, hA, h6, hB9]), B3⟩
      · refine (lit_is s LB 9 9 rfl true _ (by omega) (by rw [H.out]; decide) hB9).mono ?_
        rintro e w3 ⟨rfl, hb3⟩
        have B3 : Below w.heap.size w w3 := B2.trans (hb3.mono B2.size)
        go_wp2_with fail
        rcases (Bool.eq_false_or_eq_true (decB s 13 3)).symm with h13 | h13
        · refine (dec_is s 13 3 13 3 rfl rfl false _ (by omega) (by rw [H.out]; decide) h13).mono ?_
          rintro e w4 ⟨rfl, hb4⟩
          have B4 : Below w.heap.size w w4 := B3.trans (hb4.mono B3.size)
          go_wp2_with fail
          go_ret
          exact ⟨ret_bool (by simp [patB, H.out, hA, h6, hB9, h13]), B4⟩
        · refine (dec_is s 13 3 13 3 rfl rfl true _ (by omega) (by rw [H.out]; decide) h13).mono ?_
          rintro e w4 ⟨rfl, hb4⟩
          have B4 : Below w.heap.size w w4 := B3.trans (hb4.mono B3.size)
          go_wp2_with fail
          rcases (Bool.eq_false_or_eq_true (litB s 16 LC)).symm with hC | hC
          · refine (lit_is s LC 16 16 rfl false _ (by omega) (by rw [H.out]; decide) hC).mono ?_
            rintro e w5 ⟨rfl, hb5⟩
            have B5 : Below w.heap.size w w5 := B4.trans (hb5.mono B4.size)
            go_wp2_with fail
            go_ret
            exact ⟨ret_bool (by simp [patB, H.out, hA, h6, hB9, h13, hC]), B5⟩
          · refine (lit_is s LC 16 16 rfl true _ (by omega) (by rw [H.out]; decide) hC).mono ?_
            rintro e w5 ⟨rfl, hb5⟩
            have B5 : Below w.heap.size w w5 := B4.trans (hb5.mono B4.size)
            go_wp2_with fail
            rcases (Bool.eq_false_or_eq_true (litB s 32 LD)).symm with hD | hD
            · refine (lit_is s LD 32 32 rfl false _ (by omega) (by rw [H.out]; decide) hD).mono ?_
              rintro e w6 ⟨rfl, hb6⟩
              have B6 : Below w.heap.size w w6 := B5.trans (hb6.mono B5.size)
              go_wp2_with fail
              go_ret
              exact ⟨ret_bool (by simp [patB, H.out, hA, h6, hB9, h13, hC, hD]), B6⟩
            · refine (lit_is s LD 32 32 rfl true _ (by omega) (by rw [H.out]; decide) hD).mono ?_
              rintro e w6 ⟨rfl, hb6⟩
              have B6 : Below w.heap.size w w6 := B5.trans (hb6.mono B5.size)
              go_wp2_with fail
              rcases Bool.eq_false_or_eq_true (hexB s 33 11) with hX | hX
              · refine (hex_is s 33 11 33 11 rfl rfl true _ (by omega) (by rw [H.out]; decide) hX).mono ?_
                rintro e w7 ⟨rfl, hb7⟩
                have B7 : Below w.heap.size w w7 := B6.trans (hb7.mono B6.size)
                go_wp2_with fail
                go_ret
                exact ⟨ret_bool (by simp [patB, H.out, hA, h6, hB9, h13, hC, hD, hX]), B7⟩
              · refine (hex_is s 33 11 33 11 rfl rfl false _ (by omega) (by rw [H.out]; decide) hX).mono ?_
                rintro e w7 ⟨rfl, hb7⟩
                have B7 : Below w.heap.size w w7 := B6.trans (hb7.mono B6.size)
                go_wp2_with fail
                go_ret
                exact ⟨ret_bool (by simp [patB, H.out, hA, h6, hB9, h13, hC, hD, hX]), B7⟩
end Go.Proofs.Qxb6605316a.Snn
