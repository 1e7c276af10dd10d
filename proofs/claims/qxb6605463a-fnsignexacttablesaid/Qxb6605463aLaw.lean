/-
  THE WALK of 'FnSignExactTable' (3): its head.
-/
import Derived.Test.Qxb6605463aCall
import Derived.Test.Qxb6605463aSizes
namespace Go.Proofs.Qxb6605463a.Sign
open Go.RowKit

def HeldS (W : World) (N : Nat) (m0 : Int) (m1 m2 m3 : Bool) (m4 m5 m6 m7 m8 m9 : Int) (m10 : Bool) (sd ug : ByteArray) : Prop := W.cell? ⟨N, 0, none⟩ = some (.int .i64 m0) ∧ W.cell? ⟨N, 1, none⟩ = some (.bool m1) ∧ W.cell? ⟨N, 2, none⟩ = some (.bool m2) ∧ W.cell? ⟨N, 3, none⟩ = some (.bool m3) ∧ W.cell? ⟨N, 4, none⟩ = some (.int .i64 m4) ∧ W.cell? ⟨N, 5, none⟩ = some (.int .i64 m5) ∧ W.cell? ⟨N, 6, none⟩ = some (.int .i64 m6) ∧ W.cell? ⟨N, 7, none⟩ = some (.int .i64 m7) ∧ W.cell? ⟨N, 8, none⟩ = some (.int .i64 m8) ∧ W.cell? ⟨N, 9, none⟩ = some (.int .i64 m9) ∧ W.cell? ⟨N, 10, none⟩ = some (.bool m10) ∧ W.cell? ⟨N, 11, none⟩ = some (.string sd) ∧ W.cell? ⟨N, 12, none⟩ = some (.string ug)
theorem HeldS.kept {W W' : World} {N B : Nat} {m0 : Int} {m1 m2 m3 : Bool} {m4 m5 m6 m7 m8 m9 : Int} {m10 : Bool} {sd ug : ByteArray} (h : HeldS W N m0 m1 m2 m3 m4 m5 m6 m7 m8 m9 m10 sd ug) (hb : Below B W W') (hN : N < B) : HeldS W' N m0 m1 m2 m3 m4 m5 m6 m7 m8 m9 m10 sd ug :=
  ⟨(hb.cell (p := ⟨N, 0, none⟩) hN).trans h.1, (hb.cell (p := ⟨N, 1, none⟩) hN).trans h.2.1, (hb.cell (p := ⟨N, 2, none⟩) hN).trans h.2.2.1, (hb.cell (p := ⟨N, 3, none⟩) hN).trans h.2.2.2.1, (hb.cell (p := ⟨N, 4, none⟩) hN).trans h.2.2.2.2.1, (hb.cell (p := ⟨N, 5, none⟩) hN).trans h.2.2.2.2.2.1, (hb.cell (p := ⟨N, 6, none⟩) hN).trans h.2.2.2.2.2.2.1, (hb.cell (p := ⟨N, 7, none⟩) hN).trans h.2.2.2.2.2.2.2.1, (hb.cell (p := ⟨N, 8, none⟩) hN).trans h.2.2.2.2.2.2.2.2.1, (hb.cell (p := ⟨N, 9, none⟩) hN).trans h.2.2.2.2.2.2.2.2.2.1, (hb.cell (p := ⟨N, 10, none⟩) hN).trans h.2.2.2.2.2.2.2.2.2.2.1, (hb.cell (p := ⟨N, 11, none⟩) hN).trans h.2.2.2.2.2.2.2.2.2.2.2.1, (hb.cell (p := ⟨N, 12, none⟩) hN).trans h.2.2.2.2.2.2.2.2.2.2.2.2⟩

def HeldY (W : World) (N : Nat) (z0 : Int) (z1 z2 : ByteArray) (z3 z4 z5 : Int) (mn pl z8 z9 : ByteArray) : Prop := W.cell? ⟨N, 0, none⟩ = some (.int .i32 z0) ∧ W.cell? ⟨N, 1, none⟩ = some (.string z1) ∧ W.cell? ⟨N, 2, none⟩ = some (.string z2) ∧ W.cell? ⟨N, 3, none⟩ = some (.int .i64 z3) ∧ W.cell? ⟨N, 4, none⟩ = some (.int .i64 z4) ∧ W.cell? ⟨N, 5, none⟩ = some (.int .i64 z5) ∧ W.cell? ⟨N, 6, none⟩ = some (.string mn) ∧ W.cell? ⟨N, 7, none⟩ = some (.string pl) ∧ W.cell? ⟨N, 8, none⟩ = some (.string z8) ∧ W.cell? ⟨N, 9, none⟩ = some (.string z9)
theorem HeldY.kept {W W' : World} {N B : Nat} {z0 : Int} {z1 z2 : ByteArray} {z3 z4 z5 : Int} {mn pl z8 z9 : ByteArray} (h : HeldY W N z0 z1 z2 z3 z4 z5 mn pl z8 z9) (hb : Below B W W') (hN : N < B) : HeldY W' N z0 z1 z2 z3 z4 z5 mn pl z8 z9 :=
  ⟨(hb.cell (p := ⟨N, 0, none⟩) hN).trans h.1, (hb.cell (p := ⟨N, 1, none⟩) hN).trans h.2.1, (hb.cell (p := ⟨N, 2, none⟩) hN).trans h.2.2.1, (hb.cell (p := ⟨N, 3, none⟩) hN).trans h.2.2.2.1, (hb.cell (p := ⟨N, 4, none⟩) hN).trans h.2.2.2.2.1, (hb.cell (p := ⟨N, 5, none⟩) hN).trans h.2.2.2.2.2.1, (hb.cell (p := ⟨N, 6, none⟩) hN).trans h.2.2.2.2.2.2.1, (hb.cell (p := ⟨N, 7, none⟩) hN).trans h.2.2.2.2.2.2.2.1, (hb.cell (p := ⟨N, 8, none⟩) hN).trans h.2.2.2.2.2.2.2.2.1, (hb.cell (p := ⟨N, 9, none⟩) hN).trans h.2.2.2.2.2.2.2.2.2⟩

theorem ret_bool {a b : Bool} (h : a = b) : Ending.returned (.bool a) = .returned (.bool b) := by rw [h]

set_option maxRecDepth 100000 in
set_option maxHeartbeats 4000000 in
theorem law_any (m0 : Int) (m1 m2 m3 : Bool) (m4 m5 m6 m7 m8 m9 : Int) (m10 : Bool) (sd ug : ByteArray) (ng : Bool) (dg : ByteArray) (ex fm : Int) (z0 : Int) (z1 z2 : ByteArray) (z3 z4 z5 : Int) (mn pl z8 z9 : ByteArray) (w : World) (z nan : Bool) (hz : Hid (((fm == 0) && dg.toList.isEmpty) = z)) (hnan : Hid ((fm == 2) = nan)) (k : Nat) (hk : Hid (sg sd ng z nan = k)) :
    Calls Try.prog 3 #[.agg #[.int .i64 m0, .bool m1, .bool m2, .bool m3, .int .i64 m4, .int .i64 m5, .int .i64 m6, .int .i64 m7, .int .i64 m8, .int .i64 m9, .bool m10, .string sd, .string ug], .bool ng, .string dg, .int .i64 ex, .int .i64 fm, .agg #[.int .i32 z0, .string z1, .string z2, .int .i64 z3, .int .i64 z4, .int .i64 z5, .string mn, .string pl, .string z8, .string z9]] w fun e w' => e = .returned (.bool true) ∧ Below w.heap.size w w' := by
  go_enter Try.func3, Try.ntmps3
  go_wp2_with fail
  refine (zz_any m0 m1 m2 m3 m4 m5 m6 m7 m8 m9 m10 sd ug ng dg ex fm z0 z1 z2 z3 z4 z5 mn pl z8 z9 _).mono ?_
  rintro e w1 ⟨⟨b1, rfl⟩, hb1⟩
  have hS0 : HeldS w1 w.heap.size m0 m1 m2 m3 m4 m5 m6 m7 m8 m9 m10 sd ug := by
    refine HeldS.kept (B := _) ?_ hb1 (by simp; omega)
    exact ⟨by simp, by simp, by simp, by simp, by simp, by simp, by simp, by simp, by simp, by simp, by simp, by simp, by simp⟩
  have hY0 : HeldY w1 (w.heap.size + 1) z0 z1 z2 z3 z4 z5 mn pl z8 z9 := by
    refine HeldY.kept (B := _) ?_ hb1 (by simp)
    exact ⟨by simp, by simp, by simp, by simp, by simp, by simp, by simp, by simp, by simp, by simp⟩
  have hB1 : Below w.heap.size w w1 := (((Below.refl _ w).alloc (Nat.le_refl _) _).alloc (by simp) _).trans (hb1.mono (by simp; omega))
  have l1 : w.heap.size + 1 < w1.heap.size := by have := hb1.size; simp at this; omega
  clear hb1
  cases b1 with
  | false =>
    have HB : Hid (Below w.heap.size w w1) := hB1
    clear hB1 hS0 hY0
    go_wp2_with fail
    go_ret
    exact ⟨rfl, HB.out⟩
  | true =>
    have HS : Hid (HeldS w1 w.heap.size m0 m1 m2 m3 m4 m5 m6 m7 m8 m9 m10 sd ug) := hS0
    have HY : Hid (HeldY w1 (w.heap.size + 1) z0 z1 z2 z3 z4 z5 mn pl z8 z9) := hY0
    have HB : Hid (Below w.heap.size w w1) := hB1
    clear hB1
    obtain ⟨s0, s1, s2, s3, s4, s5, s6, s7, s8, s9, s10, s11, s12⟩ := hS0
    obtain ⟨y0, y1, y2, y3, y4, y5, y6, y7, y8, y9⟩ := hY0
    go_wp2_with fail
    refine (setbig_any m0 m1 m2 m3 m4 m5 m6 m7 m8 m9 m10 sd ug _).mono ?_
    rintro e w2 ⟨⟨b2, rfl⟩, hb2⟩
    have hS0 := HS.out.kept hb2 (by omega)
    have hY0 := HY.out.kept hb2 (by omega)
    have hB0 : Below w.heap.size w w2 := HB.out.trans (hb2.mono HB.out.size)
    have l0 : w.heap.size + 1 < w2.heap.size := Nat.lt_of_lt_of_le l1 hb2.size
    clear s0 s1 s2 s3 s4 s5 s6 s7 s8 s9 s10 s11 s12 y0 y1 y2 y3 y4 y5 y6 y7 y8 y9 HS HY HB l1 hb2
    have HS : Hid (HeldS w2 w.heap.size m0 m1 m2 m3 m4 m5 m6 m7 m8 m9 m10 sd ug) := hS0
    have HY : Hid (HeldY w2 (w.heap.size + 1) z0 z1 z2 z3 z4 z5 mn pl z8 z9) := hY0
    have HB : Hid (Below w.heap.size w w2) := hB0
    have l1 := l0
    clear hB0 l0
    obtain ⟨s0, s1, s2, s3, s4, s5, s6, s7, s8, s9, s10, s11, s12⟩ := hS0
    obtain ⟨y0, y1, y2, y3, y4, y5, y6, y7, y8, y9⟩ := hY0
    cases b2 with
    | true =>
      go_wp2_with fail
      go_ret
      exact ⟨rfl, HB.out⟩
    | false =>
      go_wp2_with fail
      refine (symbig_any z0 z1 z2 z3 z4 z5 mn pl z8 z9 _).mono ?_
      rintro e w3 ⟨⟨b3, rfl⟩, hb3⟩
      have hS0 := HS.out.kept hb3 (by omega)
      have hY0 := HY.out.kept hb3 (by omega)
      have hB0 : Below w.heap.size w w3 := HB.out.trans (hb3.mono HB.out.size)
      have l0 : w.heap.size + 1 < w3.heap.size := Nat.lt_of_lt_of_le l1 hb3.size
      clear s0 s1 s2 s3 s4 s5 s6 s7 s8 s9 s10 s11 s12 y0 y1 y2 y3 y4 y5 y6 y7 y8 y9 HS HY HB l1 hb3
      have HS : Hid (HeldS w3 w.heap.size m0 m1 m2 m3 m4 m5 m6 m7 m8 m9 m10 sd ug) := hS0
      have HY : Hid (HeldY w3 (w.heap.size + 1) z0 z1 z2 z3 z4 z5 mn pl z8 z9) := hY0
      have HB : Hid (Below w.heap.size w w3) := hB0
      have l1 := l0
      clear hB0 l0
      obtain ⟨s0, s1, s2, s3, s4, s5, s6, s7, s8, s9, s10, s11, s12⟩ := hS0
      obtain ⟨y0, y1, y2, y3, y4, y5, y6, y7, y8, y9⟩ := hY0
      cases b3 with
      | true =>
        go_wp2_with fail
        go_ret
        exact ⟨rfl, HB.out⟩
      | false =>
        by_cases hdg : (65536 : Int) < dg.size
        · go_wp2_with fail
          go_ret
          exact ⟨rfl, HB.out⟩
        · go_wp2_with fail
          refine (callsign_any m0 m1 m2 m3 m4 m5 m6 m7 m8 m9 m10 sd ug ng dg ex fm z0 z1 z2 z3 z4 z5 mn pl z8 z9 _ z nan hz hnan.out k hk).mono ?_
          rintro e w4 ⟨rfl, hb4⟩
          have hS0 := HS.out.kept hb4 (by omega)
          have hY0 := HY.out.kept hb4 (by omega)
          have hB0 : Below w.heap.size w w4 := HB.out.trans (hb4.mono HB.out.size)
          have l0 : w.heap.size + 1 < w4.heap.size := Nat.lt_of_lt_of_le l1 hb4.size
          clear s0 s1 s2 s3 s4 s5 s6 s7 s8 s9 s10 s11 s12 y0 y1 y2 y3 y4 y5 y6 y7 y8 y9 HS HY HB l1 hb4
          have HS : Hid (HeldS w4 w.heap.size m0 m1 m2 m3 m4 m5 m6 m7 m8 m9 m10 sd ug) := hS0
          have HY : Hid (HeldY w4 (w.heap.size + 1) z0 z1 z2 z3 z4 z5 mn pl z8 z9) := hY0
          have HB : Hid (Below w.heap.size w w4) := hB0
          have l1 := l0
          clear hB0 l0
          obtain ⟨s0, s1, s2, s3, s4, s5, s6, s7, s8, s9, s10, s11, s12⟩ := hS0
          obtain ⟨y0, y1, y2, y3, y4, y5, y6, y7, y8, y9⟩ := hY0
          have l2 : w.heap.size < w4.heap.size := by omega
          go_upto_region 6 with fail
          go_cut [14] (fun x wx => x = .int .i64 0 ∧ wx.cell? ⟨w.heap.size, 11, none⟩ = some (.string sd) ∧ wx.cell? ⟨w.heap.size + 1, 6, none⟩ = some (.string mn) ∧ wx.cell? ⟨w.heap.size + 1, 7, none⟩ = some (.string pl) ∧ wx.cell? ⟨w4.heap.size, 0, none⟩ = some (.string (ty k)) ∧ wx.cell? ⟨w4.heap.size, 1, none⟩ = some (.string (vl k mn pl)) ∧ Below w.heap.size w wx)
          case first =>
            go_wp2_with fail
            go_meet
            case rel => exact ⟨rfl, by go_simp, by go_simp, by go_simp, by go_simp, by go_simp, HB.out.alloc (by omega) _⟩
          case rest =>
            clear s0 s1 s2 s3 s4 s5 s6 s7 s8 s9 s10 s11 s12 y0 y1 y2 y3 y4 y5 y6 y7 y8 y9 HS HY HB l1 l2 hdg
            obtain ⟨rfl, p0, p1, p2, q0, q1, hB⟩ := hcut
            have HB : Hid (Below w.heap.size w wc) := hB
            clear hB
            cases hf2 : fm == 2 with
            | true =>
              have e2 : fm = 2 := by simpa using hf2
              subst e2
              obtain rfl : true = nan := hnan.out
              obtain rfl : false = z := by have := hz.out; rw [← this]; rfl
              clear hz hnan hf2
              cases ng with
              | true =>
                cases hA : sd.toList == [97, 108, 119, 97, 121, 115] with
                | true =>
                  obtain rfl : 1 = k := by have := hk.out; unfold sg at this; rw [if_pos hA] at this; exact this
                  have t0 : wc.cell? ⟨w4.heap.size, 0, none⟩ = some (.string Ms) := q0
                  have t1 : wc.cell? ⟨w4.heap.size, 1, none⟩ = some (.string mn) := q1
                  clear q0 q1
                  go_wp2_with (go_at_call 10; refine (row_A sd _ hA).mono ?_; rintro e w' ⟨rfl, hw⟩; subst w')
                  go_ret
                  exact ⟨ret_bool (by simp), HB.out⟩
                | false =>
                  have NA : Hid (¬ (sd.toList == [97, 108, 119, 97, 121, 115]) = true) := by show ¬ _; rw [hA]; decide
                  cases hE : sd.toList == [101, 120, 99, 101, 112, 116, 90, 101, 114, 111] with
                  | true =>
                    obtain rfl : 0 = k := by have := hk.out; unfold sg at this; rw [if_neg NA.out, if_pos hE] at this; exact this
                    have t0 : wc.cell? ⟨w4.heap.size, 0, none⟩ = some (.string No) := q0
                    have t1 : wc.cell? ⟨w4.heap.size, 1, none⟩ = some (.string No) := q1
                    clear q0 q1
                    go_wp2_with (go_at_call 10; refine (row_E sd _ hA hE).mono ?_; rintro e w' ⟨rfl, hw⟩; subst w')
                    go_ret
                    exact ⟨ret_bool (by simp), HB.out⟩
                  | false =>
                    have NE : Hid (¬ (sd.toList == [101, 120, 99, 101, 112, 116, 90, 101, 114, 111]) = true) := by show ¬ _; rw [hE]; decide
                    cases hN : sd.toList == [110, 101, 103, 97, 116, 105, 118, 101] with
                    | true =>
                      obtain rfl : 1 = k := by have := hk.out; unfold sg at this; rw [if_neg NA.out, if_neg NE.out, if_pos hN] at this; exact this
                      have t0 : wc.cell? ⟨w4.heap.size, 0, none⟩ = some (.string Ms) := q0
                      have t1 : wc.cell? ⟨w4.heap.size, 1, none⟩ = some (.string mn) := q1
                      clear q0 q1
                      go_wp2_with (go_at_call 10; refine (row_N sd _ hA hE hN).mono ?_; rintro e w' ⟨rfl, hw⟩; subst w')
                      go_ret
                      exact ⟨ret_bool (by simp), HB.out⟩
                    | false =>
                      have NN : Hid (¬ (sd.toList == [110, 101, 103, 97, 116, 105, 118, 101]) = true) := by show ¬ _; rw [hN]; decide
                      cases hV : sd.toList == [110, 101, 118, 101, 114] with
                      | true =>
                        obtain rfl : 0 = k := by have := hk.out; unfold sg at this; rw [if_neg NA.out, if_neg NE.out, if_neg NN.out, if_pos hV] at this; exact this
                        have t0 : wc.cell? ⟨w4.heap.size, 0, none⟩ = some (.string No) := q0
                        have t1 : wc.cell? ⟨w4.heap.size, 1, none⟩ = some (.string No) := q1
                        clear q0 q1
                        go_wp2_with (go_at_call 10; refine (row_V sd _ hA hE hN hV).mono ?_; rintro e w' ⟨rfl, hw⟩; subst w')
                        go_ret
                        exact ⟨ret_bool (by simp), HB.out⟩
                      | false =>
                        have NV : Hid (¬ (sd.toList == [110, 101, 118, 101, 114]) = true) := by show ¬ _; rw [hV]; decide
                        obtain rfl : 1 = k := by have := hk.out; unfold sg at this; rw [if_neg NA.out, if_neg NE.out, if_neg NN.out, if_neg NV.out] at this; exact this
                        have t0 : wc.cell? ⟨w4.heap.size, 0, none⟩ = some (.string Ms) := q0
                        have t1 : wc.cell? ⟨w4.heap.size, 1, none⟩ = some (.string mn) := q1
                        clear q0 q1
                        go_wp2_with (go_at_call 10; refine (row_D sd _ hA hE hN hV).mono ?_; rintro e w' ⟨rfl, hw⟩; subst w')
                        go_ret
                        exact ⟨ret_bool (by simp), HB.out⟩
              | false =>
                cases hA : sd.toList == [97, 108, 119, 97, 121, 115] with
                | true =>
                  obtain rfl : 2 = k := by have := hk.out; unfold sg at this; rw [if_pos hA] at this; exact this
                  have t0 : wc.cell? ⟨w4.heap.size, 0, none⟩ = some (.string Ps) := q0
                  have t1 : wc.cell? ⟨w4.heap.size, 1, none⟩ = some (.string pl) := q1
                  clear q0 q1
                  go_wp2_with (go_at_call 10; refine (row_A sd _ hA).mono ?_; rintro e w' ⟨rfl, hw⟩; subst w')
                  go_ret
                  exact ⟨ret_bool (by simp), HB.out⟩
                | false =>
                  have NA : Hid (¬ (sd.toList == [97, 108, 119, 97, 121, 115]) = true) := by show ¬ _; rw [hA]; decide
                  cases hE : sd.toList == [101, 120, 99, 101, 112, 116, 90, 101, 114, 111] with
                  | true =>
                    obtain rfl : 0 = k := by have := hk.out; unfold sg at this; rw [if_neg NA.out, if_pos hE] at this; exact this
                    have t0 : wc.cell? ⟨w4.heap.size, 0, none⟩ = some (.string No) := q0
                    have t1 : wc.cell? ⟨w4.heap.size, 1, none⟩ = some (.string No) := q1
                    clear q0 q1
                    go_wp2_with (go_at_call 10; refine (row_E sd _ hA hE).mono ?_; rintro e w' ⟨rfl, hw⟩; subst w')
                    go_ret
                    exact ⟨ret_bool (by simp), HB.out⟩
                  | false =>
                    have NE : Hid (¬ (sd.toList == [101, 120, 99, 101, 112, 116, 90, 101, 114, 111]) = true) := by show ¬ _; rw [hE]; decide
                    cases hN : sd.toList == [110, 101, 103, 97, 116, 105, 118, 101] with
                    | true =>
                      obtain rfl : 0 = k := by have := hk.out; unfold sg at this; rw [if_neg NA.out, if_neg NE.out, if_pos hN] at this; exact this
                      have t0 : wc.cell? ⟨w4.heap.size, 0, none⟩ = some (.string No) := q0
                      have t1 : wc.cell? ⟨w4.heap.size, 1, none⟩ = some (.string No) := q1
                      clear q0 q1
                      go_wp2_with (go_at_call 10; refine (row_N sd _ hA hE hN).mono ?_; rintro e w' ⟨rfl, hw⟩; subst w')
                      go_ret
                      exact ⟨ret_bool (by simp), HB.out⟩
                    | false =>
                      have NN : Hid (¬ (sd.toList == [110, 101, 103, 97, 116, 105, 118, 101]) = true) := by show ¬ _; rw [hN]; decide
                      cases hV : sd.toList == [110, 101, 118, 101, 114] with
                      | true =>
                        obtain rfl : 0 = k := by have := hk.out; unfold sg at this; rw [if_neg NA.out, if_neg NE.out, if_neg NN.out, if_pos hV] at this; exact this
                        have t0 : wc.cell? ⟨w4.heap.size, 0, none⟩ = some (.string No) := q0
                        have t1 : wc.cell? ⟨w4.heap.size, 1, none⟩ = some (.string No) := q1
                        clear q0 q1
                        go_wp2_with (go_at_call 10; refine (row_V sd _ hA hE hN hV).mono ?_; rintro e w' ⟨rfl, hw⟩; subst w')
                        go_ret
                        exact ⟨ret_bool (by simp), HB.out⟩
                      | false =>
                        have NV : Hid (¬ (sd.toList == [110, 101, 118, 101, 114]) = true) := by show ¬ _; rw [hV]; decide
                        obtain rfl : 0 = k := by have := hk.out; unfold sg at this; rw [if_neg NA.out, if_neg NE.out, if_neg NN.out, if_neg NV.out] at this; exact this
                        have t0 : wc.cell? ⟨w4.heap.size, 0, none⟩ = some (.string No) := q0
                        have t1 : wc.cell? ⟨w4.heap.size, 1, none⟩ = some (.string No) := q1
                        clear q0 q1
                        go_wp2_with (go_at_call 10; refine (row_D sd _ hA hE hN hV).mono ?_; rintro e w' ⟨rfl, hw⟩; subst w')
                        go_ret
                        exact ⟨ret_bool (by simp), HB.out⟩
            | false =>
              obtain rfl : false = nan := by have := hnan.out; rw [hf2] at this; exact this
              cases hf0 : fm == 0 with
              | true =>
                cases hd0 : dg.toList.isEmpty with
                | true =>
                  obtain rfl : true = z := by have := hz.out; rw [hf0, hd0] at this; exact this
                  clear hz hnan
                  cases ng with
                  | true =>
                    cases hA : sd.toList == [97, 108, 119, 97, 121, 115] with
                    | true =>
                      obtain rfl : 1 = k := by have := hk.out; unfold sg at this; rw [if_pos hA] at this; exact this
                      have t0 : wc.cell? ⟨w4.heap.size, 0, none⟩ = some (.string Ms) := q0
                      have t1 : wc.cell? ⟨w4.heap.size, 1, none⟩ = some (.string mn) := q1
                      clear q0 q1
                      go_wp2_with (go_at_call 10; refine (row_A sd _ hA).mono ?_; rintro e w' ⟨rfl, hw⟩; subst w')
                      go_ret
                      exact ⟨ret_bool (by simp), HB.out⟩
                    | false =>
                      have NA : Hid (¬ (sd.toList == [97, 108, 119, 97, 121, 115]) = true) := by show ¬ _; rw [hA]; decide
                      cases hE : sd.toList == [101, 120, 99, 101, 112, 116, 90, 101, 114, 111] with
                      | true =>
                        obtain rfl : 0 = k := by have := hk.out; unfold sg at this; rw [if_neg NA.out, if_pos hE] at this; exact this
                        have t0 : wc.cell? ⟨w4.heap.size, 0, none⟩ = some (.string No) := q0
                        have t1 : wc.cell? ⟨w4.heap.size, 1, none⟩ = some (.string No) := q1
                        clear q0 q1
                        go_wp2_with (go_at_call 10; refine (row_E sd _ hA hE).mono ?_; rintro e w' ⟨rfl, hw⟩; subst w')
                        go_ret
                        exact ⟨ret_bool (by simp), HB.out⟩
                      | false =>
                        have NE : Hid (¬ (sd.toList == [101, 120, 99, 101, 112, 116, 90, 101, 114, 111]) = true) := by show ¬ _; rw [hE]; decide
                        cases hN : sd.toList == [110, 101, 103, 97, 116, 105, 118, 101] with
                        | true =>
                          obtain rfl : 0 = k := by have := hk.out; unfold sg at this; rw [if_neg NA.out, if_neg NE.out, if_pos hN] at this; exact this
                          have t0 : wc.cell? ⟨w4.heap.size, 0, none⟩ = some (.string No) := q0
                          have t1 : wc.cell? ⟨w4.heap.size, 1, none⟩ = some (.string No) := q1
                          clear q0 q1
                          go_wp2_with (go_at_call 10; refine (row_N sd _ hA hE hN).mono ?_; rintro e w' ⟨rfl, hw⟩; subst w')
                          go_ret
                          exact ⟨ret_bool (by simp), HB.out⟩
                        | false =>
                          have NN : Hid (¬ (sd.toList == [110, 101, 103, 97, 116, 105, 118, 101]) = true) := by show ¬ _; rw [hN]; decide
                          cases hV : sd.toList == [110, 101, 118, 101, 114] with
                          | true =>
                            obtain rfl : 0 = k := by have := hk.out; unfold sg at this; rw [if_neg NA.out, if_neg NE.out, if_neg NN.out, if_pos hV] at this; exact this
                            have t0 : wc.cell? ⟨w4.heap.size, 0, none⟩ = some (.string No) := q0
                            have t1 : wc.cell? ⟨w4.heap.size, 1, none⟩ = some (.string No) := q1
                            clear q0 q1
                            go_wp2_with (go_at_call 10; refine (row_V sd _ hA hE hN hV).mono ?_; rintro e w' ⟨rfl, hw⟩; subst w')
                            go_ret
                            exact ⟨ret_bool (by simp), HB.out⟩
                          | false =>
                            have NV : Hid (¬ (sd.toList == [110, 101, 118, 101, 114]) = true) := by show ¬ _; rw [hV]; decide
                            obtain rfl : 1 = k := by have := hk.out; unfold sg at this; rw [if_neg NA.out, if_neg NE.out, if_neg NN.out, if_neg NV.out] at this; exact this
                            have t0 : wc.cell? ⟨w4.heap.size, 0, none⟩ = some (.string Ms) := q0
                            have t1 : wc.cell? ⟨w4.heap.size, 1, none⟩ = some (.string mn) := q1
                            clear q0 q1
                            go_wp2_with (go_at_call 10; refine (row_D sd _ hA hE hN hV).mono ?_; rintro e w' ⟨rfl, hw⟩; subst w')
                            go_ret
                            exact ⟨ret_bool (by simp), HB.out⟩
                  | false =>
                    cases hA : sd.toList == [97, 108, 119, 97, 121, 115] with
                    | true =>
                      obtain rfl : 2 = k := by have := hk.out; unfold sg at this; rw [if_pos hA] at this; exact this
                      have t0 : wc.cell? ⟨w4.heap.size, 0, none⟩ = some (.string Ps) := q0
                      have t1 : wc.cell? ⟨w4.heap.size, 1, none⟩ = some (.string pl) := q1
                      clear q0 q1
                      go_wp2_with (go_at_call 10; refine (row_A sd _ hA).mono ?_; rintro e w' ⟨rfl, hw⟩; subst w')
                      go_ret
                      exact ⟨ret_bool (by simp), HB.out⟩
                    | false =>
                      have NA : Hid (¬ (sd.toList == [97, 108, 119, 97, 121, 115]) = true) := by show ¬ _; rw [hA]; decide
                      cases hE : sd.toList == [101, 120, 99, 101, 112, 116, 90, 101, 114, 111] with
                      | true =>
                        obtain rfl : 0 = k := by have := hk.out; unfold sg at this; rw [if_neg NA.out, if_pos hE] at this; exact this
                        have t0 : wc.cell? ⟨w4.heap.size, 0, none⟩ = some (.string No) := q0
                        have t1 : wc.cell? ⟨w4.heap.size, 1, none⟩ = some (.string No) := q1
                        clear q0 q1
                        go_wp2_with (go_at_call 10; refine (row_E sd _ hA hE).mono ?_; rintro e w' ⟨rfl, hw⟩; subst w')
                        go_ret
                        exact ⟨ret_bool (by simp), HB.out⟩
                      | false =>
                        have NE : Hid (¬ (sd.toList == [101, 120, 99, 101, 112, 116, 90, 101, 114, 111]) = true) := by show ¬ _; rw [hE]; decide
                        cases hN : sd.toList == [110, 101, 103, 97, 116, 105, 118, 101] with
                        | true =>
                          obtain rfl : 0 = k := by have := hk.out; unfold sg at this; rw [if_neg NA.out, if_neg NE.out, if_pos hN] at this; exact this
                          have t0 : wc.cell? ⟨w4.heap.size, 0, none⟩ = some (.string No) := q0
                          have t1 : wc.cell? ⟨w4.heap.size, 1, none⟩ = some (.string No) := q1
                          clear q0 q1
                          go_wp2_with (go_at_call 10; refine (row_N sd _ hA hE hN).mono ?_; rintro e w' ⟨rfl, hw⟩; subst w')
                          go_ret
                          exact ⟨ret_bool (by simp), HB.out⟩
                        | false =>
                          have NN : Hid (¬ (sd.toList == [110, 101, 103, 97, 116, 105, 118, 101]) = true) := by show ¬ _; rw [hN]; decide
                          cases hV : sd.toList == [110, 101, 118, 101, 114] with
                          | true =>
                            obtain rfl : 0 = k := by have := hk.out; unfold sg at this; rw [if_neg NA.out, if_neg NE.out, if_neg NN.out, if_pos hV] at this; exact this
                            have t0 : wc.cell? ⟨w4.heap.size, 0, none⟩ = some (.string No) := q0
                            have t1 : wc.cell? ⟨w4.heap.size, 1, none⟩ = some (.string No) := q1
                            clear q0 q1
                            go_wp2_with (go_at_call 10; refine (row_V sd _ hA hE hN hV).mono ?_; rintro e w' ⟨rfl, hw⟩; subst w')
                            go_ret
                            exact ⟨ret_bool (by simp), HB.out⟩
                          | false =>
                            have NV : Hid (¬ (sd.toList == [110, 101, 118, 101, 114]) = true) := by show ¬ _; rw [hV]; decide
                            obtain rfl : 0 = k := by have := hk.out; unfold sg at this; rw [if_neg NA.out, if_neg NE.out, if_neg NN.out, if_neg NV.out] at this; exact this
                            have t0 : wc.cell? ⟨w4.heap.size, 0, none⟩ = some (.string No) := q0
                            have t1 : wc.cell? ⟨w4.heap.size, 1, none⟩ = some (.string No) := q1
                            clear q0 q1
                            go_wp2_with (go_at_call 10; refine (row_D sd _ hA hE hN hV).mono ?_; rintro e w' ⟨rfl, hw⟩; subst w')
                            go_ret
                            exact ⟨ret_bool (by simp), HB.out⟩
                | false =>
                  obtain rfl : false = z := by have := hz.out; rw [hf0, hd0] at this; exact this
                  clear hz hnan
                  cases ng with
                  | true =>
                    cases hA : sd.toList == [97, 108, 119, 97, 121, 115] with
                    | true =>
                      obtain rfl : 1 = k := by have := hk.out; unfold sg at this; rw [if_pos hA] at this; exact this
                      have t0 : wc.cell? ⟨w4.heap.size, 0, none⟩ = some (.string Ms) := q0
                      have t1 : wc.cell? ⟨w4.heap.size, 1, none⟩ = some (.string mn) := q1
                      clear q0 q1
                      go_wp2_with (go_at_call 10; refine (row_A sd _ hA).mono ?_; rintro e w' ⟨rfl, hw⟩; subst w')
                      go_ret
                      exact ⟨ret_bool (by simp), HB.out⟩
                    | false =>
                      have NA : Hid (¬ (sd.toList == [97, 108, 119, 97, 121, 115]) = true) := by show ¬ _; rw [hA]; decide
                      cases hE : sd.toList == [101, 120, 99, 101, 112, 116, 90, 101, 114, 111] with
                      | true =>
                        obtain rfl : 1 = k := by have := hk.out; unfold sg at this; rw [if_neg NA.out, if_pos hE] at this; exact this
                        have t0 : wc.cell? ⟨w4.heap.size, 0, none⟩ = some (.string Ms) := q0
                        have t1 : wc.cell? ⟨w4.heap.size, 1, none⟩ = some (.string mn) := q1
                        clear q0 q1
                        go_wp2_with (go_at_call 10; refine (row_E sd _ hA hE).mono ?_; rintro e w' ⟨rfl, hw⟩; subst w')
                        go_ret
                        exact ⟨ret_bool (by simp), HB.out⟩
                      | false =>
                        have NE : Hid (¬ (sd.toList == [101, 120, 99, 101, 112, 116, 90, 101, 114, 111]) = true) := by show ¬ _; rw [hE]; decide
                        cases hN : sd.toList == [110, 101, 103, 97, 116, 105, 118, 101] with
                        | true =>
                          obtain rfl : 1 = k := by have := hk.out; unfold sg at this; rw [if_neg NA.out, if_neg NE.out, if_pos hN] at this; exact this
                          have t0 : wc.cell? ⟨w4.heap.size, 0, none⟩ = some (.string Ms) := q0
                          have t1 : wc.cell? ⟨w4.heap.size, 1, none⟩ = some (.string mn) := q1
                          clear q0 q1
                          go_wp2_with (go_at_call 10; refine (row_N sd _ hA hE hN).mono ?_; rintro e w' ⟨rfl, hw⟩; subst w')
                          go_ret
                          exact ⟨ret_bool (by simp), HB.out⟩
                        | false =>
                          have NN : Hid (¬ (sd.toList == [110, 101, 103, 97, 116, 105, 118, 101]) = true) := by show ¬ _; rw [hN]; decide
                          cases hV : sd.toList == [110, 101, 118, 101, 114] with
                          | true =>
                            obtain rfl : 0 = k := by have := hk.out; unfold sg at this; rw [if_neg NA.out, if_neg NE.out, if_neg NN.out, if_pos hV] at this; exact this
                            have t0 : wc.cell? ⟨w4.heap.size, 0, none⟩ = some (.string No) := q0
                            have t1 : wc.cell? ⟨w4.heap.size, 1, none⟩ = some (.string No) := q1
                            clear q0 q1
                            go_wp2_with (go_at_call 10; refine (row_V sd _ hA hE hN hV).mono ?_; rintro e w' ⟨rfl, hw⟩; subst w')
                            go_ret
                            exact ⟨ret_bool (by simp), HB.out⟩
                          | false =>
                            have NV : Hid (¬ (sd.toList == [110, 101, 118, 101, 114]) = true) := by show ¬ _; rw [hV]; decide
                            obtain rfl : 1 = k := by have := hk.out; unfold sg at this; rw [if_neg NA.out, if_neg NE.out, if_neg NN.out, if_neg NV.out] at this; exact this
                            have t0 : wc.cell? ⟨w4.heap.size, 0, none⟩ = some (.string Ms) := q0
                            have t1 : wc.cell? ⟨w4.heap.size, 1, none⟩ = some (.string mn) := q1
                            clear q0 q1
                            go_wp2_with (go_at_call 10; refine (row_D sd _ hA hE hN hV).mono ?_; rintro e w' ⟨rfl, hw⟩; subst w')
                            go_ret
                            exact ⟨ret_bool (by simp), HB.out⟩
                  | false =>
                    cases hA : sd.toList == [97, 108, 119, 97, 121, 115] with
                    | true =>
                      obtain rfl : 2 = k := by have := hk.out; unfold sg at this; rw [if_pos hA] at this; exact this
                      have t0 : wc.cell? ⟨w4.heap.size, 0, none⟩ = some (.string Ps) := q0
                      have t1 : wc.cell? ⟨w4.heap.size, 1, none⟩ = some (.string pl) := q1
                      clear q0 q1
                      go_wp2_with (go_at_call 10; refine (row_A sd _ hA).mono ?_; rintro e w' ⟨rfl, hw⟩; subst w')
                      go_ret
                      exact ⟨ret_bool (by simp), HB.out⟩
                    | false =>
                      have NA : Hid (¬ (sd.toList == [97, 108, 119, 97, 121, 115]) = true) := by show ¬ _; rw [hA]; decide
                      cases hE : sd.toList == [101, 120, 99, 101, 112, 116, 90, 101, 114, 111] with
                      | true =>
                        obtain rfl : 2 = k := by have := hk.out; unfold sg at this; rw [if_neg NA.out, if_pos hE] at this; exact this
                        have t0 : wc.cell? ⟨w4.heap.size, 0, none⟩ = some (.string Ps) := q0
                        have t1 : wc.cell? ⟨w4.heap.size, 1, none⟩ = some (.string pl) := q1
                        clear q0 q1
                        go_wp2_with (go_at_call 10; refine (row_E sd _ hA hE).mono ?_; rintro e w' ⟨rfl, hw⟩; subst w')
                        go_ret
                        exact ⟨ret_bool (by simp), HB.out⟩
                      | false =>
                        have NE : Hid (¬ (sd.toList == [101, 120, 99, 101, 112, 116, 90, 101, 114, 111]) = true) := by show ¬ _; rw [hE]; decide
                        cases hN : sd.toList == [110, 101, 103, 97, 116, 105, 118, 101] with
                        | true =>
                          obtain rfl : 0 = k := by have := hk.out; unfold sg at this; rw [if_neg NA.out, if_neg NE.out, if_pos hN] at this; exact this
                          have t0 : wc.cell? ⟨w4.heap.size, 0, none⟩ = some (.string No) := q0
                          have t1 : wc.cell? ⟨w4.heap.size, 1, none⟩ = some (.string No) := q1
                          clear q0 q1
                          go_wp2_with (go_at_call 10; refine (row_N sd _ hA hE hN).mono ?_; rintro e w' ⟨rfl, hw⟩; subst w')
                          go_ret
                          exact ⟨ret_bool (by simp), HB.out⟩
                        | false =>
                          have NN : Hid (¬ (sd.toList == [110, 101, 103, 97, 116, 105, 118, 101]) = true) := by show ¬ _; rw [hN]; decide
                          cases hV : sd.toList == [110, 101, 118, 101, 114] with
                          | true =>
                            obtain rfl : 0 = k := by have := hk.out; unfold sg at this; rw [if_neg NA.out, if_neg NE.out, if_neg NN.out, if_pos hV] at this; exact this
                            have t0 : wc.cell? ⟨w4.heap.size, 0, none⟩ = some (.string No) := q0
                            have t1 : wc.cell? ⟨w4.heap.size, 1, none⟩ = some (.string No) := q1
                            clear q0 q1
                            go_wp2_with (go_at_call 10; refine (row_V sd _ hA hE hN hV).mono ?_; rintro e w' ⟨rfl, hw⟩; subst w')
                            go_ret
                            exact ⟨ret_bool (by simp), HB.out⟩
                          | false =>
                            have NV : Hid (¬ (sd.toList == [110, 101, 118, 101, 114]) = true) := by show ¬ _; rw [hV]; decide
                            obtain rfl : 0 = k := by have := hk.out; unfold sg at this; rw [if_neg NA.out, if_neg NE.out, if_neg NN.out, if_neg NV.out] at this; exact this
                            have t0 : wc.cell? ⟨w4.heap.size, 0, none⟩ = some (.string No) := q0
                            have t1 : wc.cell? ⟨w4.heap.size, 1, none⟩ = some (.string No) := q1
                            clear q0 q1
                            go_wp2_with (go_at_call 10; refine (row_D sd _ hA hE hN hV).mono ?_; rintro e w' ⟨rfl, hw⟩; subst w')
                            go_ret
                            exact ⟨ret_bool (by simp), HB.out⟩
              | false =>
                obtain rfl : false = z := by have := hz.out; rw [hf0] at this; exact this
                clear hz hnan
                cases ng with
                | true =>
                  cases hA : sd.toList == [97, 108, 119, 97, 121, 115] with
                  | true =>
                    obtain rfl : 1 = k := by have := hk.out; unfold sg at this; rw [if_pos hA] at this; exact this
                    have t0 : wc.cell? ⟨w4.heap.size, 0, none⟩ = some (.string Ms) := q0
                    have t1 : wc.cell? ⟨w4.heap.size, 1, none⟩ = some (.string mn) := q1
                    clear q0 q1
                    go_wp2_with (go_at_call 10; refine (row_A sd _ hA).mono ?_; rintro e w' ⟨rfl, hw⟩; subst w')
                    go_ret
                    exact ⟨ret_bool (by simp), HB.out⟩
                  | false =>
                    have NA : Hid (¬ (sd.toList == [97, 108, 119, 97, 121, 115]) = true) := by show ¬ _; rw [hA]; decide
                    cases hE : sd.toList == [101, 120, 99, 101, 112, 116, 90, 101, 114, 111] with
                    | true =>
                      obtain rfl : 1 = k := by have := hk.out; unfold sg at this; rw [if_neg NA.out, if_pos hE] at this; exact this
                      have t0 : wc.cell? ⟨w4.heap.size, 0, none⟩ = some (.string Ms) := q0
                      have t1 : wc.cell? ⟨w4.heap.size, 1, none⟩ = some (.string mn) := q1
                      clear q0 q1
                      go_wp2_with (go_at_call 10; refine (row_E sd _ hA hE).mono ?_; rintro e w' ⟨rfl, hw⟩; subst w')
                      go_ret
                      exact ⟨ret_bool (by simp), HB.out⟩
                    | false =>
                      have NE : Hid (¬ (sd.toList == [101, 120, 99, 101, 112, 116, 90, 101, 114, 111]) = true) := by show ¬ _; rw [hE]; decide
                      cases hN : sd.toList == [110, 101, 103, 97, 116, 105, 118, 101] with
                      | true =>
                        obtain rfl : 1 = k := by have := hk.out; unfold sg at this; rw [if_neg NA.out, if_neg NE.out, if_pos hN] at this; exact this
                        have t0 : wc.cell? ⟨w4.heap.size, 0, none⟩ = some (.string Ms) := q0
                        have t1 : wc.cell? ⟨w4.heap.size, 1, none⟩ = some (.string mn) := q1
                        clear q0 q1
                        go_wp2_with (go_at_call 10; refine (row_N sd _ hA hE hN).mono ?_; rintro e w' ⟨rfl, hw⟩; subst w')
                        go_ret
                        exact ⟨ret_bool (by simp), HB.out⟩
                      | false =>
                        have NN : Hid (¬ (sd.toList == [110, 101, 103, 97, 116, 105, 118, 101]) = true) := by show ¬ _; rw [hN]; decide
                        cases hV : sd.toList == [110, 101, 118, 101, 114] with
                        | true =>
                          obtain rfl : 0 = k := by have := hk.out; unfold sg at this; rw [if_neg NA.out, if_neg NE.out, if_neg NN.out, if_pos hV] at this; exact this
                          have t0 : wc.cell? ⟨w4.heap.size, 0, none⟩ = some (.string No) := q0
                          have t1 : wc.cell? ⟨w4.heap.size, 1, none⟩ = some (.string No) := q1
                          clear q0 q1
                          go_wp2_with (go_at_call 10; refine (row_V sd _ hA hE hN hV).mono ?_; rintro e w' ⟨rfl, hw⟩; subst w')
                          go_ret
                          exact ⟨ret_bool (by simp), HB.out⟩
                        | false =>
                          have NV : Hid (¬ (sd.toList == [110, 101, 118, 101, 114]) = true) := by show ¬ _; rw [hV]; decide
                          obtain rfl : 1 = k := by have := hk.out; unfold sg at this; rw [if_neg NA.out, if_neg NE.out, if_neg NN.out, if_neg NV.out] at this; exact this
                          have t0 : wc.cell? ⟨w4.heap.size, 0, none⟩ = some (.string Ms) := q0
                          have t1 : wc.cell? ⟨w4.heap.size, 1, none⟩ = some (.string mn) := q1
                          clear q0 q1
                          go_wp2_with (go_at_call 10; refine (row_D sd _ hA hE hN hV).mono ?_; rintro e w' ⟨rfl, hw⟩; subst w')
                          go_ret
                          exact ⟨ret_bool (by simp), HB.out⟩
                | false =>
                  cases hA : sd.toList == [97, 108, 119, 97, 121, 115] with
                  | true =>
                    obtain rfl : 2 = k := by have := hk.out; unfold sg at this; rw [if_pos hA] at this; exact this
                    have t0 : wc.cell? ⟨w4.heap.size, 0, none⟩ = some (.string Ps) := q0
                    have t1 : wc.cell? ⟨w4.heap.size, 1, none⟩ = some (.string pl) := q1
                    clear q0 q1
                    go_wp2_with (go_at_call 10; refine (row_A sd _ hA).mono ?_; rintro e w' ⟨rfl, hw⟩; subst w')
                    go_ret
                    exact ⟨ret_bool (by simp), HB.out⟩
                  | false =>
                    have NA : Hid (¬ (sd.toList == [97, 108, 119, 97, 121, 115]) = true) := by show ¬ _; rw [hA]; decide
                    cases hE : sd.toList == [101, 120, 99, 101, 112, 116, 90, 101, 114, 111] with
                    | true =>
                      obtain rfl : 2 = k := by have := hk.out; unfold sg at this; rw [if_neg NA.out, if_pos hE] at this; exact this
                      have t0 : wc.cell? ⟨w4.heap.size, 0, none⟩ = some (.string Ps) := q0
                      have t1 : wc.cell? ⟨w4.heap.size, 1, none⟩ = some (.string pl) := q1
                      clear q0 q1
                      go_wp2_with (go_at_call 10; refine (row_E sd _ hA hE).mono ?_; rintro e w' ⟨rfl, hw⟩; subst w')
                      go_ret
                      exact ⟨ret_bool (by simp), HB.out⟩
                    | false =>
                      have NE : Hid (¬ (sd.toList == [101, 120, 99, 101, 112, 116, 90, 101, 114, 111]) = true) := by show ¬ _; rw [hE]; decide
                      cases hN : sd.toList == [110, 101, 103, 97, 116, 105, 118, 101] with
                      | true =>
                        obtain rfl : 0 = k := by have := hk.out; unfold sg at this; rw [if_neg NA.out, if_neg NE.out, if_pos hN] at this; exact this
                        have t0 : wc.cell? ⟨w4.heap.size, 0, none⟩ = some (.string No) := q0
                        have t1 : wc.cell? ⟨w4.heap.size, 1, none⟩ = some (.string No) := q1
                        clear q0 q1
                        go_wp2_with (go_at_call 10; refine (row_N sd _ hA hE hN).mono ?_; rintro e w' ⟨rfl, hw⟩; subst w')
                        go_ret
                        exact ⟨ret_bool (by simp), HB.out⟩
                      | false =>
                        have NN : Hid (¬ (sd.toList == [110, 101, 103, 97, 116, 105, 118, 101]) = true) := by show ¬ _; rw [hN]; decide
                        cases hV : sd.toList == [110, 101, 118, 101, 114] with
                        | true =>
                          obtain rfl : 0 = k := by have := hk.out; unfold sg at this; rw [if_neg NA.out, if_neg NE.out, if_neg NN.out, if_pos hV] at this; exact this
                          have t0 : wc.cell? ⟨w4.heap.size, 0, none⟩ = some (.string No) := q0
                          have t1 : wc.cell? ⟨w4.heap.size, 1, none⟩ = some (.string No) := q1
                          clear q0 q1
                          go_wp2_with (go_at_call 10; refine (row_V sd _ hA hE hN hV).mono ?_; rintro e w' ⟨rfl, hw⟩; subst w')
                          go_ret
                          exact ⟨ret_bool (by simp), HB.out⟩
                        | false =>
                          have NV : Hid (¬ (sd.toList == [110, 101, 118, 101, 114]) = true) := by show ¬ _; rw [hV]; decide
                          obtain rfl : 0 = k := by have := hk.out; unfold sg at this; rw [if_neg NA.out, if_neg NE.out, if_neg NN.out, if_neg NV.out] at this; exact this
                          have t0 : wc.cell? ⟨w4.heap.size, 0, none⟩ = some (.string No) := q0
                          have t1 : wc.cell? ⟨w4.heap.size, 1, none⟩ = some (.string No) := q1
                          clear q0 q1
                          go_wp2_with (go_at_call 10; refine (row_D sd _ hA hE hN hV).mono ?_; rintro e w' ⟨rfl, hw⟩; subst w')
                          go_ret
                          exact ⟨ret_bool (by simp), HB.out⟩
end Go.Proofs.Qxb6605463a.Sign
