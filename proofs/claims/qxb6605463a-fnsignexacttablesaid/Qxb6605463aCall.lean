/-
  THE WALKS of 'zzMakeSettings' (21), 'zzMakeSymbols' (23), 'ZZSign' (18), 'callSign' (9).
-/
import Derived.Test.Qxb6605463aSign
namespace Go.Proofs.Qxb6605463a.Sign
open Go.RowKit

set_option maxRecDepth 100000 in
theorem mkset_any (m0 : Int) (m1 m2 m3 : Bool) (m4 m5 m6 m7 m8 m9 : Int) (m10 : Bool) (sd ug : ByteArray) (w : World) :
    Calls Try.prog 21 #[.int .i64 m0, .bool m1, .bool m2, .bool m3, .int .i64 m4, .int .i64 m5, .int .i64 m6, .int .i64 m7, .int .i64 m8, .int .i64 m9, .bool m10, .string sd, .string ug] w fun e w' => e = .returned (.agg #[.int .i64 m0, .bool m1, .bool m2, .bool m3, .int .i64 m4, .int .i64 m5, .int .i64 m6, .int .i64 m7, .int .i64 m8, .int .i64 m9, .bool m10, .string sd, .string ug]) ∧ Below w.heap.size w w' := by
  go_enter Try.func21, Try.ntmps21
  go_wp2_with fail
  exact bodyPost_ret (v := .agg #[.int .i64 m0, .bool m1, .bool m2, .bool m3, .int .i64 m4, .int .i64 m5, .int .i64 m6, .int .i64 m7, .int .i64 m8, .int .i64 m9, .bool m10, .string sd, .string ug]) (by simp [results, Try.results21, go_sem]) rfl ⟨rfl, (Below.refl _ w).alloc (Nat.le_refl _) _⟩
set_option maxRecDepth 100000 in
theorem mksym_any (z0 : Int) (z1 z2 : ByteArray) (z3 z4 z5 : Int) (mn pl z8 z9 : ByteArray) (w : World) :
    Calls Try.prog 23 #[.int .i32 z0, .string z1, .string z2, .int .i64 z3, .int .i64 z4, .int .i64 z5, .string mn, .string pl, .string z8, .string z9] w fun e w' => e = .returned (.agg #[.int .i32 z0, .string z1, .string z2, .int .i64 z3, .int .i64 z4, .int .i64 z5, .string mn, .string pl, .string z8, .string z9]) ∧ Below w.heap.size w w' := by
  go_enter Try.func23, Try.ntmps23
  go_wp2_with fail
  exact bodyPost_ret (v := .agg #[.int .i32 z0, .string z1, .string z2, .int .i64 z3, .int .i64 z4, .int .i64 z5, .string mn, .string pl, .string z8, .string z9]) (by simp [results, Try.results23, go_sem]) rfl ⟨rfl, (Below.refl _ w).alloc (Nat.le_refl _) _⟩

theorem res_cells {w W : World} (hb : Below (w.alloc (.cells #[.string No, .string No] 30)).heap.size (w.alloc (.cells #[.string No, .string No] 30)) W) :
    W.cell? ⟨w.heap.size, 0, none⟩ = some (.string No) ∧ W.cell? ⟨w.heap.size, 1, none⟩ = some (.string No) ∧ W.frozen? ⟨w.heap.size, 0, none⟩ = false ∧ W.frozen? ⟨w.heap.size, 1, none⟩ = false ∧ Below w.heap.size w W := by
  have l : w.heap.size < (w.alloc (.cells #[.string No, .string No] 30)).heap.size := by simp
  refine ⟨?_, ?_, ?_, ?_, ((Below.refl _ w).alloc (Nat.le_refl _) _).trans (hb.mono (by simp))⟩
  · exact (hb.cell (p := ⟨w.heap.size, 0, none⟩) l).trans (by simp)
  · exact (hb.cell (p := ⟨w.heap.size, 1, none⟩) l).trans (by simp)
  · exact (hb.frozen (p := ⟨w.heap.size, 0, none⟩) l).trans (by simp)
  · exact (hb.frozen (p := ⟨w.heap.size, 1, none⟩) l).trans (by simp)

set_option maxRecDepth 100000 in
set_option maxHeartbeats 1000000 in
theorem zzsign_any (m0 : Int) (m1 m2 m3 : Bool) (m4 m5 m6 m7 m8 m9 : Int) (m10 : Bool) (sd ug : ByteArray) (ng : Bool) (dg : ByteArray) (ex fm : Int) (z0 : Int) (z1 z2 : ByteArray) (z3 z4 z5 : Int) (mn pl z8 z9 : ByteArray) (w : World) (z nan : Bool) (hz : Hid (((fm == 0) && dg.toList.isEmpty) = z)) (hnan : (fm == 2) = nan) (k : Nat) (hk : Hid (sg sd ng z nan = k)) :
    Calls Try.prog 18 #[.int .i64 m0, .bool m1, .bool m2, .bool m3, .int .i64 m4, .int .i64 m5, .int .i64 m6, .int .i64 m7, .int .i64 m8, .int .i64 m9, .bool m10, .string sd, .string ug, .bool ng, .string dg, .int .i64 ex, .int .i64 fm, .int .i32 z0, .string z1, .string z2, .int .i64 z3, .int .i64 z4, .int .i64 z5, .string mn, .string pl, .string z8, .string z9] w fun e w' => e = .returned (.agg #[.string (ty k), .string (vl k mn pl)]) ∧ Below w.heap.size w w' := by
  have HN : Hid ((fm == 2) = nan) := hnan
  clear hnan
  go_enter Try.func18, Try.ntmps18
  go_wp2_with fail
  refine (mkset_any m0 m1 m2 m3 m4 m5 m6 m7 m8 m9 m10 sd ug _).mono ?_
  rintro e w1 ⟨rfl, hb1⟩
  go_wp2_with fail
  refine (mksym_any z0 z1 z2 z3 z4 z5 mn pl z8 z9 _).mono ?_
  rintro e w2 ⟨rfl, hb2⟩
  go_wp2_with fail
  refine (sign_any m0 m1 m2 m3 m4 m5 m6 m7 m8 m9 m10 sd ug ng dg ex fm z0 z1 z2 z3 z4 z5 mn pl z8 z9 _ z nan hz HN.out k hk).mono ?_
  rintro e w3 ⟨rfl, hb3⟩
  have hb : Below (w.alloc (.cells #[.string No, .string No] 30)).heap.size (w.alloc (.cells #[.string No, .string No] 30)) w3 := (hb1.trans (hb2.mono hb1.size)).trans (hb3.mono (Nat.le_trans hb1.size hb2.size))
  obtain ⟨r1, r2, r3, r4, hB⟩ := res_cells hb
  have HB : Hid (Below w.heap.size w w3) := hB
  clear hb1 hb2 hb3 hb hB
  go_wp2_with fail
  exact bodyPost_ret (v := .agg #[.string (ty k), .string (vl k mn pl)]) (by simp [results, Try.results18, go_sem, r1, r2]) rfl ⟨rfl, ((HB.out.setCell (p := ⟨w.heap.size, 0, none⟩) (Nat.le_refl _) _).setCell (p := ⟨w.heap.size, 1, none⟩) (Nat.le_refl _) _)⟩

set_option maxRecDepth 100000 in
set_option maxHeartbeats 1000000 in
theorem callsign_any (m0 : Int) (m1 m2 m3 : Bool) (m4 m5 m6 m7 m8 m9 : Int) (m10 : Bool) (sd ug : ByteArray) (ng : Bool) (dg : ByteArray) (ex fm : Int) (z0 : Int) (z1 z2 : ByteArray) (z3 z4 z5 : Int) (mn pl z8 z9 : ByteArray) (w : World) (z nan : Bool) (hz : Hid (((fm == 0) && dg.toList.isEmpty) = z)) (hnan : (fm == 2) = nan) (k : Nat) (hk : Hid (sg sd ng z nan = k)) :
    Calls Try.prog 9 #[.agg #[.int .i64 m0, .bool m1, .bool m2, .bool m3, .int .i64 m4, .int .i64 m5, .int .i64 m6, .int .i64 m7, .int .i64 m8, .int .i64 m9, .bool m10, .string sd, .string ug], .bool ng, .string dg, .int .i64 ex, .int .i64 fm, .agg #[.int .i32 z0, .string z1, .string z2, .int .i64 z3, .int .i64 z4, .int .i64 z5, .string mn, .string pl, .string z8, .string z9]] w fun e w' => e = .returned (.agg #[.string (ty k), .string (vl k mn pl)]) ∧ Below w.heap.size w w' := by
  have HN : Hid ((fm == 2) = nan) := hnan
  clear hnan
  go_enter Try.func9, Try.ntmps9
  go_wp2_with fail
  refine (zzsign_any m0 m1 m2 m3 m4 m5 m6 m7 m8 m9 m10 sd ug ng dg ex fm z0 z1 z2 z3 z4 z5 mn pl z8 z9 _ z nan hz HN.out k hk).mono ?_
  rintro e w1 ⟨rfl, hb1⟩
  obtain ⟨r1', r2', r3', r4', hB'⟩ := res_cells hb1
  have r1 : w1.cell? ⟨w.heap.size + 1 + 1, 0, none⟩ = some (.string No) := by simpa using r1'
  have r2 : w1.cell? ⟨w.heap.size + 1 + 1, 1, none⟩ = some (.string No) := by simpa using r2'
  have r3 : w1.frozen? ⟨w.heap.size + 1 + 1, 0, none⟩ = false := by simpa using r3'
  have r4 : w1.frozen? ⟨w.heap.size + 1 + 1, 1, none⟩ = false := by simpa using r4'
  have HB : Hid (Below w.heap.size w w1) := (((Below.refl _ w).alloc (Nat.le_refl _) _).alloc (by simp) _).trans (hB'.mono (by simp; omega))
  clear hb1 r1' r2' r3' r4' hB'
  go_wp2_with fail
  exact bodyPost_ret (v := .agg #[.string (ty k), .string (vl k mn pl)]) (by simp [results, Try.results9, go_sem, r1, r2]) rfl ⟨rfl, ((HB.out.setCell (p := ⟨w.heap.size + 1 + 1, 0, none⟩) (show w.heap.size ≤ w.heap.size + 1 + 1 by omega) _).setCell (p := ⟨w.heap.size + 1 + 1, 1, none⟩) (show w.heap.size ≤ w.heap.size + 1 + 1 by omega) _)⟩
end Go.Proofs.Qxb6605463a.Sign
