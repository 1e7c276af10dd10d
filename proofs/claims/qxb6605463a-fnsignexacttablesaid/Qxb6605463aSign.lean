/-
  THE WALK of 'numberSettings.sign' (22).
-/
import Derived.Test.Qxb6605463aRows
import Derived.WalkKit
import Derived.RegionTactic
import Derived.BigRegion
import Derived.Deep.DeepCutAuto
import Derived.Deep.CutBlock
namespace Go.Proofs.Qxb6605463a.Sign
open Go.RowKit

abbrev Ms : ByteArray := ⟨#[109, 105, 110, 117, 115, 83, 105, 103, 110]⟩
abbrev Ps : ByteArray := ⟨#[112, 108, 117, 115, 83, 105, 103, 110]⟩
abbrev No : ByteArray := ⟨#[]⟩

theorem below_put {B : Nat} {w W : World} {b o : Nat} {x : Value} (h : Below B w W) (hb : B ≤ b) : Below B w (W.setCell ⟨b, o, none⟩ x) := h.setCell (p := ⟨b, o, none⟩) hb x

/-- Decimal.IsZero. -/
theorem isz_any (ng : Bool) (dg : ByteArray) (ex fm : Int) (w : World) (z : Bool) (hz : ((fm == 0) && dg.toList.isEmpty) = z) :
    Calls Try.prog 25 #[.agg #[.bool ng, .string dg, .int .i64 ex, .int .i64 fm]] w fun e w' => e = .returned (.bool z) ∧ Below w.heap.size w w' := by
  cases h0 : fm == 0 with
  | true =>
    rw [h0, Bool.true_and] at hz
    go_enter Try.func25, Try.ntmps25
    go_wp2
    go_ret
    exact ⟨by simp, (Below.refl _ w).alloc (Nat.le_refl _) _⟩
  | false =>
    rw [h0, Bool.false_and] at hz
    subst hz
    go_enter Try.func25, Try.ntmps25
    go_wp2
    go_ret
    exact ⟨by simp, (Below.refl _ w).alloc (Nat.le_refl _) _⟩

/-- Which sign: 0 none, 1 minus, 2 plus. -/
def sg (sd : ByteArray) (ng z nan : Bool) : Nat :=
  if (sd.toList == [97, 108, 119, 97, 121, 115]) = true then (if ng then 1 else 2)
  else if (sd.toList == [101, 120, 99, 101, 112, 116, 90, 101, 114, 111]) = true then (if z then 0 else if nan then 0 else if ng then 1 else 2)
  else if (sd.toList == [110, 101, 103, 97, 116, 105, 118, 101]) = true then (if ng then (if z then 0 else 1) else 0)
  else if (sd.toList == [110, 101, 118, 101, 114]) = true then 0
  else (if ng then 1 else 0)
def ty (k : Nat) : ByteArray := if k = 1 then Ms else if k = 2 then Ps else No
def vl (k : Nat) (mn pl : ByteArray) : ByteArray := if k = 1 then mn else if k = 2 then pl else No

theorem fin_of {w W : World} {a b a' b' : ByteArray} (h1 : a = a') (h2 : b = b') (hB : Below w.heap.size w W) : Ending.returned (.agg #[.string a, .string b]) = .returned (.agg #[.string a', .string b']) ∧ Below w.heap.size w W := by
  subst h1; subst h2; exact ⟨rfl, hB⟩

set_option maxRecDepth 100000 in
set_option maxHeartbeats 8000000 in
theorem sign_any (m0 : Int) (m1 m2 m3 : Bool) (m4 m5 m6 m7 m8 m9 : Int) (m10 : Bool) (sd ug : ByteArray) (ng : Bool) (dg : ByteArray) (ex fm : Int) (z0 : Int) (z1 z2 : ByteArray) (z3 z4 z5 : Int) (mn pl z8 z9 : ByteArray) (w : World) (z nan : Bool) (hz : Hid (((fm == 0) && dg.toList.isEmpty) = z)) (hnan : (fm == 2) = nan) (k : Nat) (hk : Hid (sg sd ng z nan = k)) :
    Calls Try.prog 22 #[.agg #[.int .i64 m0, .bool m1, .bool m2, .bool m3, .int .i64 m4, .int .i64 m5, .int .i64 m6, .int .i64 m7, .int .i64 m8, .int .i64 m9, .bool m10, .string sd, .string ug], .agg #[.bool ng, .string dg, .int .i64 ex, .int .i64 fm], .agg #[.int .i32 z0, .string z1, .string z2, .int .i64 z3, .int .i64 z4, .int .i64 z5, .string mn, .string pl, .string z8, .string z9]] w fun e w' => e = .returned (.agg #[.string (ty k), .string (vl k mn pl)]) ∧ Below w.heap.size w w' := by
  go_enter Try.func22, Try.ntmps22
  go_upto_region 1 with fail
  go_cut [7, 8] (fun x y wx => ∃ p q : Nat, x = .pointer (some ⟨p, 0, none⟩) ∧ y = .pointer (some ⟨q, 0, none⟩) ∧ wx.cell? ⟨p, 0, none⟩ = some (.string Ms) ∧ wx.cell? ⟨p, 1, none⟩ = some (.string mn) ∧ wx.cell? ⟨q, 0, none⟩ = some (.string Ps) ∧ wx.cell? ⟨q, 1, none⟩ = some (.string pl) ∧
    wx.cell? ⟨w.heap.size, 11, none⟩ = some (.string sd) ∧ wx.cell? ⟨w.heap.size + 1, 0, none⟩ = some (.bool ng) ∧ wx.cell? ⟨w.heap.size + 1, 1, none⟩ = some (.string dg) ∧ wx.cell? ⟨w.heap.size + 1, 2, none⟩ = some (.int .i64 ex) ∧ wx.cell? ⟨w.heap.size + 1, 3, none⟩ = some (.int .i64 fm) ∧
    wx.cell? ⟨w.heap.size + 1 + 1 + 1, 0, none⟩ = some (.string ⟨#[]⟩) ∧ wx.cell? ⟨w.heap.size + 1 + 1 + 1, 1, none⟩ = some (.string ⟨#[]⟩) ∧ wx.frozen? ⟨w.heap.size + 1 + 1 + 1, 0, none⟩ = false ∧ wx.frozen? ⟨w.heap.size + 1 + 1 + 1, 1, none⟩ = false ∧
    Below w.heap.size w wx)
  case first =>
    go_region
    all_goals go_wp2_with fail
    all_goals go_meet
    all_goals exact ⟨_, _, rfl, rfl, by go_simp, by go_simp, by go_simp, by go_simp, by go_simp, by go_simp, by go_simp, by go_simp, by go_simp, by go_simp, by go_simp, by go_simp, by go_simp, (((((((Below.refl _ w).alloc (Nat.le_refl _) _).alloc (by simp) _).alloc (by simp; omega) _).alloc (by simp; omega) _).alloc (by simp; omega) _).alloc (by simp; omega) _).drew⟩
  case rest =>
    obtain ⟨p, q, rfl, rfl, a1, a2, a3, a4, b1, c1, c2, c3, c4, r1, r2, r3, r4, hB⟩ := hcut
    have HB : Hid (Below w.heap.size w wc) := hB
    clear hB
    cases hA : sd.toList == [97, 108, 119, 97, 121, 115] with
    | true =>
      cases ng with
      | true =>
        obtain rfl : 1 = k := by have := hk.out; unfold sg at this; rw [if_pos hA] at this; exact this
        go_wp2_with fail
        exact bodyPost_ret (v := .agg #[.string Ms, .string mn]) (by simp [results, Try.results22, go_sem, r1, r2]) rfl (fin_of rfl rfl ((HB.out.setCell (p := ⟨w.heap.size + 1 + 1 + 1, 0, none⟩) (show w.heap.size ≤ w.heap.size + 1 + 1 + 1 by omega) _).setCell (p := ⟨w.heap.size + 1 + 1 + 1, 1, none⟩) (show w.heap.size ≤ w.heap.size + 1 + 1 + 1 by omega) _))
      | false =>
        obtain rfl : 2 = k := by have := hk.out; unfold sg at this; rw [if_pos hA] at this; exact this
        go_wp2_with fail
        exact bodyPost_ret (v := .agg #[.string Ps, .string pl]) (by simp [results, Try.results22, go_sem, r1, r2]) rfl (fin_of rfl rfl ((HB.out.setCell (p := ⟨w.heap.size + 1 + 1 + 1, 0, none⟩) (show w.heap.size ≤ w.heap.size + 1 + 1 + 1 by omega) _).setCell (p := ⟨w.heap.size + 1 + 1 + 1, 1, none⟩) (show w.heap.size ≤ w.heap.size + 1 + 1 + 1 by omega) _))
    | false =>
      have nA : ¬ (sd.toList == [97, 108, 119, 97, 121, 115]) = true := by rw [hA]; decide
      have NA : Hid (¬ (sd.toList == [97, 108, 119, 97, 121, 115]) = true) := nA
      clear nA
      cases hE : sd.toList == [101, 120, 99, 101, 112, 116, 90, 101, 114, 111] with
      | true =>
        cases z with
        | true =>
          obtain rfl : 0 = k := by have := hk.out; unfold sg at this; rw [if_neg NA.out, if_pos hE] at this; exact this
          go_wp2_with fail
          refine (isz_any _ dg ex fm _ true hz.out).mono ?_
          rintro e w2 ⟨rfl, hb2⟩
          have HB2 : Hid (Below w.heap.size w w2) := HB.out.trans (hb2.mono HB.out.size)
          have a1 := (hb2.cell (World.block_lt_of_cell? _ _ a1)).trans a1
          have a2 := (hb2.cell (World.block_lt_of_cell? _ _ a2)).trans a2
          have a3 := (hb2.cell (World.block_lt_of_cell? _ _ a3)).trans a3
          have a4 := (hb2.cell (World.block_lt_of_cell? _ _ a4)).trans a4
          have c1 := (hb2.cell (World.block_lt_of_cell? _ _ c1)).trans c1
          have c4 := (hb2.cell (World.block_lt_of_cell? _ _ c4)).trans c4
          have r3 := (hb2.frozen (World.block_lt_of_cell? _ _ r1)).trans r3
          have r4 := (hb2.frozen (World.block_lt_of_cell? _ _ r2)).trans r4
          have r1 := (hb2.cell (World.block_lt_of_cell? _ _ r1)).trans r1
          have r2 := (hb2.cell (World.block_lt_of_cell? _ _ r2)).trans r2
          clear hb2
          go_wp2_with fail
          exact bodyPost_ret (v := .agg #[.string No, .string No]) (by simp [results, Try.results22, go_sem, r1, r2]) rfl (fin_of rfl rfl ((HB2.out.setCell (p := ⟨w.heap.size + 1 + 1 + 1, 0, none⟩) (show w.heap.size ≤ w.heap.size + 1 + 1 + 1 by omega) _).setCell (p := ⟨w.heap.size + 1 + 1 + 1, 1, none⟩) (show w.heap.size ≤ w.heap.size + 1 + 1 + 1 by omega) _))
        | false =>
          cases nan with
          | true =>
            obtain rfl : 0 = k := by have := hk.out; unfold sg at this; rw [if_neg NA.out, if_pos hE] at this; exact this
            go_wp2_with fail
            refine (isz_any _ dg ex fm _ false hz.out).mono ?_
            rintro e w2 ⟨rfl, hb2⟩
            have HB2 : Hid (Below w.heap.size w w2) := HB.out.trans (hb2.mono HB.out.size)
            have a1 := (hb2.cell (World.block_lt_of_cell? _ _ a1)).trans a1
            have a2 := (hb2.cell (World.block_lt_of_cell? _ _ a2)).trans a2
            have a3 := (hb2.cell (World.block_lt_of_cell? _ _ a3)).trans a3
            have a4 := (hb2.cell (World.block_lt_of_cell? _ _ a4)).trans a4
            have c1 := (hb2.cell (World.block_lt_of_cell? _ _ c1)).trans c1
            have c4 := (hb2.cell (World.block_lt_of_cell? _ _ c4)).trans c4
            have r3 := (hb2.frozen (World.block_lt_of_cell? _ _ r1)).trans r3
            have r4 := (hb2.frozen (World.block_lt_of_cell? _ _ r2)).trans r4
            have r1 := (hb2.cell (World.block_lt_of_cell? _ _ r1)).trans r1
            have r2 := (hb2.cell (World.block_lt_of_cell? _ _ r2)).trans r2
            clear hb2
            go_wp2_with fail
            exact bodyPost_ret (v := .agg #[.string No, .string No]) (by simp [results, Try.results22, go_sem, r1, r2]) rfl (fin_of rfl rfl ((HB2.out.setCell (p := ⟨w.heap.size + 1 + 1 + 1, 0, none⟩) (show w.heap.size ≤ w.heap.size + 1 + 1 + 1 by omega) _).setCell (p := ⟨w.heap.size + 1 + 1 + 1, 1, none⟩) (show w.heap.size ≤ w.heap.size + 1 + 1 + 1 by omega) _))
          | false =>
            cases ng with
            | true =>
              obtain rfl : 1 = k := by have := hk.out; unfold sg at this; rw [if_neg NA.out, if_pos hE] at this; exact this
              go_wp2_with fail
              refine (isz_any _ dg ex fm _ false hz.out).mono ?_
              rintro e w2 ⟨rfl, hb2⟩
              have HB2 : Hid (Below w.heap.size w w2) := HB.out.trans (hb2.mono HB.out.size)
              have a1 := (hb2.cell (World.block_lt_of_cell? _ _ a1)).trans a1
              have a2 := (hb2.cell (World.block_lt_of_cell? _ _ a2)).trans a2
              have a3 := (hb2.cell (World.block_lt_of_cell? _ _ a3)).trans a3
              have a4 := (hb2.cell (World.block_lt_of_cell? _ _ a4)).trans a4
              have c1 := (hb2.cell (World.block_lt_of_cell? _ _ c1)).trans c1
              have c4 := (hb2.cell (World.block_lt_of_cell? _ _ c4)).trans c4
              have r3 := (hb2.frozen (World.block_lt_of_cell? _ _ r1)).trans r3
              have r4 := (hb2.frozen (World.block_lt_of_cell? _ _ r2)).trans r4
              have r1 := (hb2.cell (World.block_lt_of_cell? _ _ r1)).trans r1
              have r2 := (hb2.cell (World.block_lt_of_cell? _ _ r2)).trans r2
              clear hb2
              go_wp2_with fail
              exact bodyPost_ret (v := .agg #[.string Ms, .string mn]) (by simp [results, Try.results22, go_sem, r1, r2]) rfl (fin_of rfl rfl ((HB2.out.setCell (p := ⟨w.heap.size + 1 + 1 + 1, 0, none⟩) (show w.heap.size ≤ w.heap.size + 1 + 1 + 1 by omega) _).setCell (p := ⟨w.heap.size + 1 + 1 + 1, 1, none⟩) (show w.heap.size ≤ w.heap.size + 1 + 1 + 1 by omega) _))
            | false =>
              obtain rfl : 2 = k := by have := hk.out; unfold sg at this; rw [if_neg NA.out, if_pos hE] at this; exact this
              go_wp2_with fail
              refine (isz_any _ dg ex fm _ false hz.out).mono ?_
              rintro e w2 ⟨rfl, hb2⟩
              have HB2 : Hid (Below w.heap.size w w2) := HB.out.trans (hb2.mono HB.out.size)
              have a1 := (hb2.cell (World.block_lt_of_cell? _ _ a1)).trans a1
              have a2 := (hb2.cell (World.block_lt_of_cell? _ _ a2)).trans a2
              have a3 := (hb2.cell (World.block_lt_of_cell? _ _ a3)).trans a3
              have a4 := (hb2.cell (World.block_lt_of_cell? _ _ a4)).trans a4
              have c1 := (hb2.cell (World.block_lt_of_cell? _ _ c1)).trans c1
              have c4 := (hb2.cell (World.block_lt_of_cell? _ _ c4)).trans c4
              have r3 := (hb2.frozen (World.block_lt_of_cell? _ _ r1)).trans r3
              have r4 := (hb2.frozen (World.block_lt_of_cell? _ _ r2)).trans r4
              have r1 := (hb2.cell (World.block_lt_of_cell? _ _ r1)).trans r1
              have r2 := (hb2.cell (World.block_lt_of_cell? _ _ r2)).trans r2
              clear hb2
              go_wp2_with fail
              exact bodyPost_ret (v := .agg #[.string Ps, .string pl]) (by simp [results, Try.results22, go_sem, r1, r2]) rfl (fin_of rfl rfl ((HB2.out.setCell (p := ⟨w.heap.size + 1 + 1 + 1, 0, none⟩) (show w.heap.size ≤ w.heap.size + 1 + 1 + 1 by omega) _).setCell (p := ⟨w.heap.size + 1 + 1 + 1, 1, none⟩) (show w.heap.size ≤ w.heap.size + 1 + 1 + 1 by omega) _))
      | false =>
        have NE : Hid (¬ (sd.toList == [101, 120, 99, 101, 112, 116, 90, 101, 114, 111]) = true) := by show ¬ _; rw [hE]; decide
        cases hN : sd.toList == [110, 101, 103, 97, 116, 105, 118, 101] with
        | true =>
          cases ng with
          | true =>
            cases z with
            | true =>
              obtain rfl : 0 = k := by have := hk.out; unfold sg at this; rw [if_neg NA.out, if_neg NE.out, if_pos hN] at this; exact this
              go_wp2_with fail
              refine (isz_any _ dg ex fm _ true hz.out).mono ?_
              rintro e w2 ⟨rfl, hb2⟩
              have HB2 : Hid (Below w.heap.size w w2) := HB.out.trans (hb2.mono HB.out.size)
              have a1 := (hb2.cell (World.block_lt_of_cell? _ _ a1)).trans a1
              have a2 := (hb2.cell (World.block_lt_of_cell? _ _ a2)).trans a2
              have a3 := (hb2.cell (World.block_lt_of_cell? _ _ a3)).trans a3
              have a4 := (hb2.cell (World.block_lt_of_cell? _ _ a4)).trans a4
              have c1 := (hb2.cell (World.block_lt_of_cell? _ _ c1)).trans c1
              have c4 := (hb2.cell (World.block_lt_of_cell? _ _ c4)).trans c4
              have r3 := (hb2.frozen (World.block_lt_of_cell? _ _ r1)).trans r3
              have r4 := (hb2.frozen (World.block_lt_of_cell? _ _ r2)).trans r4
              have r1 := (hb2.cell (World.block_lt_of_cell? _ _ r1)).trans r1
              have r2 := (hb2.cell (World.block_lt_of_cell? _ _ r2)).trans r2
              clear hb2
              go_wp2_with fail
              exact bodyPost_ret (v := .agg #[.string No, .string No]) (by simp [results, Try.results22, go_sem, r1, r2]) rfl (fin_of rfl rfl ((HB2.out.setCell (p := ⟨w.heap.size + 1 + 1 + 1, 0, none⟩) (show w.heap.size ≤ w.heap.size + 1 + 1 + 1 by omega) _).setCell (p := ⟨w.heap.size + 1 + 1 + 1, 1, none⟩) (show w.heap.size ≤ w.heap.size + 1 + 1 + 1 by omega) _))
            | false =>
              obtain rfl : 1 = k := by have := hk.out; unfold sg at this; rw [if_neg NA.out, if_neg NE.out, if_pos hN] at this; exact this
              go_wp2_with fail
              refine (isz_any _ dg ex fm _ false hz.out).mono ?_
              rintro e w2 ⟨rfl, hb2⟩
              have HB2 : Hid (Below w.heap.size w w2) := HB.out.trans (hb2.mono HB.out.size)
              have a1 := (hb2.cell (World.block_lt_of_cell? _ _ a1)).trans a1
              have a2 := (hb2.cell (World.block_lt_of_cell? _ _ a2)).trans a2
              have a3 := (hb2.cell (World.block_lt_of_cell? _ _ a3)).trans a3
              have a4 := (hb2.cell (World.block_lt_of_cell? _ _ a4)).trans a4
              have c1 := (hb2.cell (World.block_lt_of_cell? _ _ c1)).trans c1
              have c4 := (hb2.cell (World.block_lt_of_cell? _ _ c4)).trans c4
              have r3 := (hb2.frozen (World.block_lt_of_cell? _ _ r1)).trans r3
              have r4 := (hb2.frozen (World.block_lt_of_cell? _ _ r2)).trans r4
              have r1 := (hb2.cell (World.block_lt_of_cell? _ _ r1)).trans r1
              have r2 := (hb2.cell (World.block_lt_of_cell? _ _ r2)).trans r2
              clear hb2
              go_wp2_with fail
              exact bodyPost_ret (v := .agg #[.string Ms, .string mn]) (by simp [results, Try.results22, go_sem, r1, r2]) rfl (fin_of rfl rfl ((HB2.out.setCell (p := ⟨w.heap.size + 1 + 1 + 1, 0, none⟩) (show w.heap.size ≤ w.heap.size + 1 + 1 + 1 by omega) _).setCell (p := ⟨w.heap.size + 1 + 1 + 1, 1, none⟩) (show w.heap.size ≤ w.heap.size + 1 + 1 + 1 by omega) _))
          | false =>
            obtain rfl : 0 = k := by have := hk.out; unfold sg at this; rw [if_neg NA.out, if_neg NE.out, if_pos hN] at this; exact this
            go_wp2_with fail
            exact bodyPost_ret (v := .agg #[.string No, .string No]) (by simp [results, Try.results22, go_sem, r1, r2]) rfl (fin_of rfl rfl ((HB.out.setCell (p := ⟨w.heap.size + 1 + 1 + 1, 0, none⟩) (show w.heap.size ≤ w.heap.size + 1 + 1 + 1 by omega) _).setCell (p := ⟨w.heap.size + 1 + 1 + 1, 1, none⟩) (show w.heap.size ≤ w.heap.size + 1 + 1 + 1 by omega) _))
        | false =>
          have NN : Hid (¬ (sd.toList == [110, 101, 103, 97, 116, 105, 118, 101]) = true) := by show ¬ _; rw [hN]; decide
          cases hV : sd.toList == [110, 101, 118, 101, 114] with
          | true =>
            obtain rfl : 0 = k := by have := hk.out; unfold sg at this; rw [if_neg NA.out, if_neg NE.out, if_neg NN.out, if_pos hV] at this; exact this
            go_wp2_with fail
            exact bodyPost_ret (v := .agg #[.string No, .string No]) (by simp [results, Try.results22, go_sem, r1, r2]) rfl (fin_of rfl rfl ((HB.out.setCell (p := ⟨w.heap.size + 1 + 1 + 1, 0, none⟩) (show w.heap.size ≤ w.heap.size + 1 + 1 + 1 by omega) _).setCell (p := ⟨w.heap.size + 1 + 1 + 1, 1, none⟩) (show w.heap.size ≤ w.heap.size + 1 + 1 + 1 by omega) _))
          | false =>
            have NV : Hid (¬ (sd.toList == [110, 101, 118, 101, 114]) = true) := by show ¬ _; rw [hV]; decide
            cases ng with
            | true =>
              obtain rfl : 1 = k := by have := hk.out; unfold sg at this; rw [if_neg NA.out, if_neg NE.out, if_neg NN.out, if_neg NV.out] at this; exact this
              go_wp2_with fail
              exact bodyPost_ret (v := .agg #[.string Ms, .string mn]) (by simp [results, Try.results22, go_sem, r1, r2]) rfl (fin_of rfl rfl ((HB.out.setCell (p := ⟨w.heap.size + 1 + 1 + 1, 0, none⟩) (show w.heap.size ≤ w.heap.size + 1 + 1 + 1 by omega) _).setCell (p := ⟨w.heap.size + 1 + 1 + 1, 1, none⟩) (show w.heap.size ≤ w.heap.size + 1 + 1 + 1 by omega) _))
            | false =>
              obtain rfl : 0 = k := by have := hk.out; unfold sg at this; rw [if_neg NA.out, if_neg NE.out, if_neg NN.out, if_neg NV.out] at this; exact this
              go_wp2_with fail
              exact bodyPost_ret (v := .agg #[.string No, .string No]) (by simp [results, Try.results22, go_sem, r1, r2]) rfl (fin_of rfl rfl ((HB.out.setCell (p := ⟨w.heap.size + 1 + 1 + 1, 0, none⟩) (show w.heap.size ≤ w.heap.size + 1 + 1 + 1 by omega) _).setCell (p := ⟨w.heap.size + 1 + 1 + 1, 1, none⟩) (show w.heap.size ≤ w.heap.size + 1 + 1 + 1 by omega) _))
end Go.Proofs.Qxb6605463a.Sign
