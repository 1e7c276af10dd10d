/-
  THE WALKS of 'zzBytes_FnSignExactTable' (6), 'settingsTooBig' (7), 'symbolsTooBig' (8), 'signRow' (10).
-/
import Derived.Test.Qxb6605463aRows
import Derived.WalkKit
namespace Go.Proofs.Qxb6605463a.Sign
open Go.RowKit

/-- It returned a bool. -/
def BoolEnd (e : Ending) : Prop := ∃ b : Bool, e = .returned (.bool b)

set_option maxRecDepth 100000 in
set_option maxHeartbeats 4000000 in
theorem zz_any (m0 : Int) (m1 m2 m3 : Bool) (m4 m5 m6 m7 m8 m9 : Int) (m10 : Bool) (sd ug : ByteArray) (ng : Bool) (dg : ByteArray) (ex fm : Int) (z0 : Int) (z1 z2 : ByteArray) (z3 z4 z5 : Int) (mn pl z8 z9 : ByteArray) (w : World) :
    Calls Try.prog 6 #[.agg #[.int .i64 m0, .bool m1, .bool m2, .bool m3, .int .i64 m4, .int .i64 m5, .int .i64 m6, .int .i64 m7, .int .i64 m8, .int .i64 m9, .bool m10, .string sd, .string ug], .bool ng, .string dg, .int .i64 ex, .int .i64 fm, .agg #[.int .i32 z0, .string z1, .string z2, .int .i64 z3, .int .i64 z4, .int .i64 z5, .string mn, .string pl, .string z8, .string z9]] w fun e w' => BoolEnd e ∧ Below w.heap.size w w' := by
  go_enter Try.func6, Try.ntmps6
  go_wp2
  all_goals go_ret
  all_goals exact ⟨⟨_, rfl⟩, ((Below.refl _ w).alloc (Nat.le_refl _) _).alloc (by simp) _⟩

set_option maxRecDepth 100000 in
theorem setbig_any (m0 : Int) (m1 m2 m3 : Bool) (m4 m5 m6 m7 m8 m9 : Int) (m10 : Bool) (sd ug : ByteArray) (w : World) :
    Calls Try.prog 7 #[.agg #[.int .i64 m0, .bool m1, .bool m2, .bool m3, .int .i64 m4, .int .i64 m5, .int .i64 m6, .int .i64 m7, .int .i64 m8, .int .i64 m9, .bool m10, .string sd, .string ug]] w fun e w' => BoolEnd e ∧ Below w.heap.size w w' := by
  go_enter Try.func7, Try.ntmps7
  go_wp2
  all_goals go_ret
  all_goals exact ⟨⟨_, rfl⟩, (Below.refl _ w).alloc (Nat.le_refl _) _⟩
set_option maxRecDepth 100000 in
theorem symbig_any (z0 : Int) (z1 z2 : ByteArray) (z3 z4 z5 : Int) (mn pl z8 z9 : ByteArray) (w : World) :
    Calls Try.prog 8 #[.agg #[.int .i32 z0, .string z1, .string z2, .int .i64 z3, .int .i64 z4, .int .i64 z5, .string mn, .string pl, .string z8, .string z9]] w fun e w' => BoolEnd e ∧ Below w.heap.size w w' := by
  go_enter Try.func8, Try.ntmps8
  go_wp2
  all_goals go_ret
  all_goals exact ⟨⟨_, rfl⟩, (Below.refl _ w).alloc (Nat.le_refl _) _⟩

theorem row_A (sd : ByteArray) (w : World) (h : (sd.toList == [97, 108, 119, 97, 121, 115]) = true) : Calls Try.prog 10 #[.string sd] w fun e w' => e = .returned (.string ⟨#[112, 109, 112, 109, 112, 109]⟩) ∧ w' = w := by
  go_enter Try.func10, Try.ntmps10
  go_wp2
  go_ret
  exact ⟨rfl, rfl⟩
theorem row_E (sd : ByteArray) (w : World) (hA : (sd.toList == [97, 108, 119, 97, 121, 115]) = false) (h : (sd.toList == [101, 120, 99, 101, 112, 116, 90, 101, 114, 111]) = true) : Calls Try.prog 10 #[.string sd] w fun e w' => e = .returned (.string ⟨#[112, 109, 45, 45, 45, 45]⟩) ∧ w' = w := by
  go_enter Try.func10, Try.ntmps10
  go_wp2
  go_ret
  exact ⟨rfl, rfl⟩
theorem row_N (sd : ByteArray) (w : World) (hA : (sd.toList == [97, 108, 119, 97, 121, 115]) = false) (hE : (sd.toList == [101, 120, 99, 101, 112, 116, 90, 101, 114, 111]) = false) (h : (sd.toList == [110, 101, 103, 97, 116, 105, 118, 101]) = true) : Calls Try.prog 10 #[.string sd] w fun e w' => e = .returned (.string ⟨#[45, 109, 45, 45, 45, 109]⟩) ∧ w' = w := by
  go_enter Try.func10, Try.ntmps10
  go_wp2
  go_ret
  exact ⟨rfl, rfl⟩
theorem row_V (sd : ByteArray) (w : World) (hA : (sd.toList == [97, 108, 119, 97, 121, 115]) = false) (hE : (sd.toList == [101, 120, 99, 101, 112, 116, 90, 101, 114, 111]) = false) (hN : (sd.toList == [110, 101, 103, 97, 116, 105, 118, 101]) = false) (h : (sd.toList == [110, 101, 118, 101, 114]) = true) : Calls Try.prog 10 #[.string sd] w fun e w' => e = .returned (.string ⟨#[45, 45, 45, 45, 45, 45]⟩) ∧ w' = w := by
  go_enter Try.func10, Try.ntmps10
  go_wp2
  go_ret
  exact ⟨rfl, rfl⟩
theorem row_D (sd : ByteArray) (w : World) (hA : (sd.toList == [97, 108, 119, 97, 121, 115]) = false) (hE : (sd.toList == [101, 120, 99, 101, 112, 116, 90, 101, 114, 111]) = false) (hN : (sd.toList == [110, 101, 103, 97, 116, 105, 118, 101]) = false) (hV : (sd.toList == [110, 101, 118, 101, 114]) = false) : Calls Try.prog 10 #[.string sd] w fun e w' => e = .returned (.string ⟨#[45, 109, 45, 109, 45, 109]⟩) ∧ w' = w := by
  go_enter Try.func10, Try.ntmps10
  go_wp2
  go_ret
  exact ⟨rfl, rfl⟩
end Go.Proofs.Qxb6605463a.Sign
