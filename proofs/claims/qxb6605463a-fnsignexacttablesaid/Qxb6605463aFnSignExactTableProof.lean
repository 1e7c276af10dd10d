/-
  'Rows.FnSignExactTableSaid' proved: the frame after the guide's template and the seat's shells; the two structs are opened by hand.
-/
import Derived.Test.Qxb6605463aRows
import Derived.Test.Qxb6605463aLaw
import Derived.WalkKit
import Derived.ProofKit
import Derived.OpenShut
import Derived.ShutString
import Derived.ChangeOld
import Derived.Below
namespace Go.Proofs.Qxb6605463a.fnSignExactTable
open Go.ChangeShapes Go.WideShapes Go.ChangeAt Go.RowKit
open Go.ChangeMaps (open_string shut_string)

theorem own : ownKnob Try.prog.godebug = none := by kernel_rfl
theorem laidOut : laidOutB Try.prog = true := by kernel_rfl
theorem cells23 : Try.prog.cellsOf 23 = 13 := by kernel_rfl
theorem cells25 : Try.prog.cellsOf 25 = 10 := by kernel_rfl
theorem cells3 : Try.prog.cellsOf 3 = 1 := by kernel_rfl
theorem cells4 : Try.prog.cellsOf 4 = 1 := by kernel_rfl
theorem cells2 : Try.prog.cellsOf 2 = 1 := by kernel_rfl
theorem cells9 : Try.prog.cellsOf 9 = 1 := by kernel_rfl
theorem cells21 : Try.prog.cellsOf 21 = 1 := by kernel_rfl

theorem open23 {H : Type} {enc : TypeId × Value → H} {W : World} {base : Nat} {v : Value} {d : DataW H} {p : List MemPlace} (hv : Value.okWide Try.prog W .any base 23 v) (h : DataW.Trod enc Try.prog W 0 (fun _ => true) true 23 v d p) :
    ∃ (m0 : Int) (m1 m2 m3 : Bool) (m4 m5 m6 m7 m8 m9 : Int) (m10 : Bool) (sd ug : ByteArray), v = .agg #[.int .i64 m0, .bool m1, .bool m2, .bool m3, .int .i64 m4, .int .i64 m5, .int .i64 m6, .int .i64 m7, .int .i64 m8, .int .i64 m9, .bool m10, .string sd, .string ug] := by
  obtain ⟨cs, rfl, hsz⟩ := okWide_struct Try.underlying23 hv
  obtain ⟨fuel, hf⟩ := h
  obtain ⟨xs, n, _, _, _, hlen, hfld⟩ := DataW.trod_struct Try.underlying23 hf
  have hl : cs.size = 13 := hsz.trans cells23
  obtain ⟨l⟩ := cs
  match l, hl, xs, hlen with
  | [c0, c1, c2, c3, c4, c5, c6, c7, c8, c9, c10, c11, c12], _, [x0, x1, x2, x3, x4, x5, x6, x7, x8, x9, x10, x11, x12], _ =>
    have f0 : DataW.trod enc Try.prog W 0 (fun _ => true) true n 3 [c0] = some x0 := by simpa [Value.cells, cells3] using hfld 0 _ rfl
    obtain ⟨m0, e0, _, _⟩ := DataW.trod_int Try.underlying3 f0
    obtain rfl : c0 = .int .i64 m0 := by simpa using e0
    have f1 : DataW.trod enc Try.prog W 0 (fun _ => true) true n 4 [c1] = some x1 := by simpa [Value.cells, cells4] using hfld 1 _ rfl
    obtain ⟨m1, e1, _⟩ := DataW.trod_bool Try.underlying4 f1
    obtain rfl : c1 = .bool m1 := by simpa using e1
    have f2 : DataW.trod enc Try.prog W 0 (fun _ => true) true n 4 [c2] = some x2 := by simpa [Value.cells, cells4] using hfld 2 _ rfl
    obtain ⟨m2, e2, _⟩ := DataW.trod_bool Try.underlying4 f2
    obtain rfl : c2 = .bool m2 := by simpa using e2
    have f3 : DataW.trod enc Try.prog W 0 (fun _ => true) true n 4 [c3] = some x3 := by simpa [Value.cells, cells4] using hfld 3 _ rfl
    obtain ⟨m3, e3, _⟩ := DataW.trod_bool Try.underlying4 f3
    obtain rfl : c3 = .bool m3 := by simpa using e3
    have f4 : DataW.trod enc Try.prog W 0 (fun _ => true) true n 3 [c4] = some x4 := by simpa [Value.cells, cells3] using hfld 4 _ rfl
    obtain ⟨m4, e4, _, _⟩ := DataW.trod_int Try.underlying3 f4
    obtain rfl : c4 = .int .i64 m4 := by simpa using e4
    have f5 : DataW.trod enc Try.prog W 0 (fun _ => true) true n 3 [c5] = some x5 := by simpa [Value.cells, cells3] using hfld 5 _ rfl
    obtain ⟨m5, e5, _, _⟩ := DataW.trod_int Try.underlying3 f5
    obtain rfl : c5 = .int .i64 m5 := by simpa using e5
    have f6 : DataW.trod enc Try.prog W 0 (fun _ => true) true n 3 [c6] = some x6 := by simpa [Value.cells, cells3] using hfld 6 _ rfl
    obtain ⟨m6, e6, _, _⟩ := DataW.trod_int Try.underlying3 f6
    obtain rfl : c6 = .int .i64 m6 := by simpa using e6
    have f7 : DataW.trod enc Try.prog W 0 (fun _ => true) true n 3 [c7] = some x7 := by simpa [Value.cells, cells3] using hfld 7 _ rfl
    obtain ⟨m7, e7, _, _⟩ := DataW.trod_int Try.underlying3 f7
    obtain rfl : c7 = .int .i64 m7 := by simpa using e7
    have f8 : DataW.trod enc Try.prog W 0 (fun _ => true) true n 2 [c8] = some x8 := by simpa [Value.cells, cells2] using hfld 8 _ rfl
    obtain ⟨m8, e8, _, _⟩ := DataW.trod_int Try.underlying2 f8
    obtain rfl : c8 = .int .i64 m8 := by simpa using e8
    have f9 : DataW.trod enc Try.prog W 0 (fun _ => true) true n 3 [c9] = some x9 := by simpa [Value.cells, cells3] using hfld 9 _ rfl
    obtain ⟨m9, e9, _, _⟩ := DataW.trod_int Try.underlying3 f9
    obtain rfl : c9 = .int .i64 m9 := by simpa using e9
    have f10 : DataW.trod enc Try.prog W 0 (fun _ => true) true n 4 [c10] = some x10 := by simpa [Value.cells, cells4] using hfld 10 _ rfl
    obtain ⟨m10, e10, _⟩ := DataW.trod_bool Try.underlying4 f10
    obtain rfl : c10 = .bool m10 := by simpa using e10
    have f11 : DataW.trod enc Try.prog W 0 (fun _ => true) true n 9 [c11] = some x11 := by simpa [Value.cells, cells9] using hfld 11 _ rfl
    obtain ⟨sd, e11, _, _⟩ := DataW.trod_string Try.underlying9 f11
    obtain rfl : c11 = .string sd := by simpa using e11
    have f12 : DataW.trod enc Try.prog W 0 (fun _ => true) true n 9 [c12] = some x12 := by simpa [Value.cells, cells9] using hfld 12 _ rfl
    obtain ⟨ug, e12, _, _⟩ := DataW.trod_string Try.underlying9 f12
    obtain rfl : c12 = .string ug := by simpa using e12
    exact ⟨m0, m1, m2, m3, m4, m5, m6, m7, m8, m9, m10, sd, ug, rfl⟩

theorem open25 {H : Type} {enc : TypeId × Value → H} {W : World} {base : Nat} {v : Value} {d : DataW H} {p : List MemPlace} (hv : Value.okWide Try.prog W .any base 25 v) (h : DataW.Trod enc Try.prog W 0 (fun _ => true) true 25 v d p) :
    ∃ (z0 : Int) (z1 z2 : ByteArray) (z3 z4 z5 : Int) (mn pl z8 z9 : ByteArray), v = .agg #[.int .i32 z0, .string z1, .string z2, .int .i64 z3, .int .i64 z4, .int .i64 z5, .string mn, .string pl, .string z8, .string z9] := by
  obtain ⟨cs, rfl, hsz⟩ := okWide_struct Try.underlying25 hv
  obtain ⟨fuel, hf⟩ := h
  obtain ⟨xs, n, _, _, _, hlen, hfld⟩ := DataW.trod_struct Try.underlying25 hf
  have hl : cs.size = 10 := hsz.trans cells25
  obtain ⟨l⟩ := cs
  match l, hl, xs, hlen with
  | [c0, c1, c2, c3, c4, c5, c6, c7, c8, c9], _, [x0, x1, x2, x3, x4, x5, x6, x7, x8, x9], _ =>
    have f0 : DataW.trod enc Try.prog W 0 (fun _ => true) true n 21 [c0] = some x0 := by simpa [Value.cells, cells21] using hfld 0 _ rfl
    obtain ⟨z0, e0, _, _⟩ := DataW.trod_int Try.underlying21 f0
    obtain rfl : c0 = .int .i32 z0 := by simpa using e0
    have f1 : DataW.trod enc Try.prog W 0 (fun _ => true) true n 9 [c1] = some x1 := by simpa [Value.cells, cells9] using hfld 1 _ rfl
    obtain ⟨z1, e1, _, _⟩ := DataW.trod_string Try.underlying9 f1
    obtain rfl : c1 = .string z1 := by simpa using e1
    have f2 : DataW.trod enc Try.prog W 0 (fun _ => true) true n 9 [c2] = some x2 := by simpa [Value.cells, cells9] using hfld 2 _ rfl
    obtain ⟨z2, e2, _, _⟩ := DataW.trod_string Try.underlying9 f2
    obtain rfl : c2 = .string z2 := by simpa using e2
    have f3 : DataW.trod enc Try.prog W 0 (fun _ => true) true n 3 [c3] = some x3 := by simpa [Value.cells, cells3] using hfld 3 _ rfl
    obtain ⟨z3, e3, _, _⟩ := DataW.trod_int Try.underlying3 f3
    obtain rfl : c3 = .int .i64 z3 := by simpa using e3
    have f4 : DataW.trod enc Try.prog W 0 (fun _ => true) true n 3 [c4] = some x4 := by simpa [Value.cells, cells3] using hfld 4 _ rfl
    obtain ⟨z4, e4, _, _⟩ := DataW.trod_int Try.underlying3 f4
    obtain rfl : c4 = .int .i64 z4 := by simpa using e4
    have f5 : DataW.trod enc Try.prog W 0 (fun _ => true) true n 3 [c5] = some x5 := by simpa [Value.cells, cells3] using hfld 5 _ rfl
    obtain ⟨z5, e5, _, _⟩ := DataW.trod_int Try.underlying3 f5
    obtain rfl : c5 = .int .i64 z5 := by simpa using e5
    have f6 : DataW.trod enc Try.prog W 0 (fun _ => true) true n 9 [c6] = some x6 := by simpa [Value.cells, cells9] using hfld 6 _ rfl
    obtain ⟨mn, e6, _, _⟩ := DataW.trod_string Try.underlying9 f6
    obtain rfl : c6 = .string mn := by simpa using e6
    have f7 : DataW.trod enc Try.prog W 0 (fun _ => true) true n 9 [c7] = some x7 := by simpa [Value.cells, cells9] using hfld 7 _ rfl
    obtain ⟨pl, e7, _, _⟩ := DataW.trod_string Try.underlying9 f7
    obtain rfl : c7 = .string pl := by simpa using e7
    have f8 : DataW.trod enc Try.prog W 0 (fun _ => true) true n 9 [c8] = some x8 := by simpa [Value.cells, cells9] using hfld 8 _ rfl
    obtain ⟨z8, e8, _, _⟩ := DataW.trod_string Try.underlying9 f8
    obtain rfl : c8 = .string z8 := by simpa using e8
    have f9 : DataW.trod enc Try.prog W 0 (fun _ => true) true n 9 [c9] = some x9 := by simpa [Value.cells, cells9] using hfld 9 _ rfl
    obtain ⟨z9, e9, _, _⟩ := DataW.trod_string Try.underlying9 f9
    obtain rfl : c9 = .string z9 := by simpa using e9
    exact ⟨z0, z1, z2, z3, z4, z5, mn, pl, z8, z9, rfl⟩

set_option maxRecDepth 100000 in
theorem lifted (os : Os) (started : os.Started) (H : Type) (enc : TypeId × Value → H) :
    ReturnsInHanded {} Try.checked os 3 .any (Rows.fnSignExactTableSpec.pre6 enc Try.prog Try.f3 Rows.fnSignExactTableRow.domain false) (Rows.fnSignExactTableSpec.post enc Try.prog Try.f3 false true false false) := by
  refine returnsInHanded_of_change (C := Try.checked) own started (by kernel_rfl) Try.func3
    (ChangeSpec.witness6 (enc := enc) (C := Try.checked) false ⟨#[], #[.agg #[.int .i64 0, .bool false, .bool false, .bool false, .int .i64 0, .int .i64 0, .int .i64 0, .int .i64 0, .int .i64 0, .int .i64 0, .bool false, .string ByteArray.empty, .string ByteArray.empty], .bool false, .string ByteArray.empty, .int .i64 0, .int .i64 0, .agg #[.int .i32 0, .string ByteArray.empty, .string ByteArray.empty, .int .i64 0, .int .i64 0, .int .i64 0, .string ByteArray.empty, .string ByteArray.empty, .string ByteArray.empty, .string ByteArray.empty]], []⟩ 8 (by kernel_rfl) (by kernel_rfl) (by kernel_rfl) (by kernel_rfl)) ?_
  intro W base args ds gs before hval0 hW hcnd _
  have hval : ∀ (j : Nat) t v, Try.f3.params[j]? = some t → args[j]? = some v → Value.okWide Try.prog W .any base t v := hval0
  have hW' := hW
  obtain ⟨p, q, hA0, hV, rfl, hfz, hnd⟩ := hW
  have hA : DataW.TrodAll enc Try.prog W 0 (fun _ => true) true Try.f3.params.toList args.toList ds p := hA0
  rw [Try.params3] at hA hval
  obtain ⟨v0, vs0, d0, ds0, p0, q0, hargs, rfl, rfl, h0, r0⟩ := trodAll_cons hA
  obtain ⟨v1, vs1, d1, ds1, p1, q1, rfl, rfl, rfl, h1, r1⟩ := trodAll_cons r0
  obtain ⟨v2, vs2, d2, ds2, p2, q2, rfl, rfl, rfl, h2, r2⟩ := trodAll_cons r1
  obtain ⟨v3, vs3, d3, ds3, p3, q3, rfl, rfl, rfl, h3, r3⟩ := trodAll_cons r2
  obtain ⟨v4, vs4, d4, ds4, p4, q4, rfl, rfl, rfl, h4, r4⟩ := trodAll_cons r3
  obtain ⟨v5, vs5, d5, ds5, p5, q5, rfl, rfl, rfl, h5, r5⟩ := trodAll_cons r4
  obtain ⟨rfl, rfl, rfl⟩ := trodAll_nil r5
  obtain rfl : args = #[v0, v1, v2, v3, v4, v5] := by cases args; simp_all
  obtain ⟨rfl, rfl⟩ := trodVars_none hV
  have k0 := h0
  have lt0 : ∀ x ∈ p0, x.block < W.heap.size := by obtain ⟨m, hm⟩ := k0; exact DataW.trod_lt m _ _ _ hm
  have k5 := h5
  have lt5 : ∀ x ∈ p5, x.block < W.heap.size := by obtain ⟨m, hm⟩ := k5; exact DataW.trod_lt m _ _ _ hm
  obtain ⟨m0, m1, m2, m3, m4, m5, m6, m7, m8, m9, m10, sd, ug, rfl⟩ := open23 (hval 0 23 v0 rfl rfl) h0
  obtain ⟨ng, rfl, rfl, rfl⟩ := open_bool Try.underlying4 (hval 1 4 v1 rfl rfl) h1
  obtain ⟨dg, rfl, rfl, rfl, w2⟩ := open_string Try.underlying9 (hval 2 9 v2 rfl rfl) h2
  obtain ⟨ex, rfl, rfl, rfl, w3⟩ := open_int Try.underlying3 (hval 3 3 v3 rfl rfl) h3
  obtain ⟨fm, rfl, rfl, rfl, w4⟩ := open_int Try.underlying3 (hval 4 3 v4 rfl rfl) h4
  obtain ⟨z0, z1, z2, z3, z4, z5, mn, pl, z8, z9, rfl⟩ := open25 (hval 5 25 v5 rfl rfl) h5
  clear hA0 hval0
  refine (Sign.law_any m0 m1 m2 m3 m4 m5 m6 m7 m8 m9 m10 sd ug ng dg ex fm z0 z1 z2 z3 z4 z5 mn pl z8 z9 W _ _ rfl rfl _ rfl).mono fun e W' ⟨he, bel⟩ => ?_
  subst he
  exact ⟨_, rfl, _, _, _, [], _, [], hW', trodAll_mk1 (shut_bool Try.underlying4 _), (trodAll_cons_mk (Below.trod laidOut (by kernel_rfl) (of_decide_eq_true (by kernel_rfl)) k0 bel lt0) (trodAll_cons_mk (shut_bool Try.underlying4 _) (trodAll_cons_mk (shut_string Try.underlying9 w2) (trodAll_cons_mk (shut_int Try.underlying3 w3) (trodAll_cons_mk (shut_int Try.underlying3 w4) (trodAll_cons_mk (Below.trod laidOut (by kernel_rfl) (of_decide_eq_true (by kernel_rfl)) k5 bel lt5) trodAll_mk0)))))), rfl, bel.frame _, fun h => by cases h⟩

theorem over : Rows.fnSignExactTableRow.holds Try.pinned (OpenSpec.ofChange Rows.fnSignExactTableSpec) :=
  OpenClaim.holds_of_wide 3 Try.f3 rfl rfl rfl rfl rfl rfl rfl ⟨rfl, rfl, rfl, rfl, rfl⟩ rfl rfl rfl rfl rfl (by kernel_rfl) Try.func3 (by kernel_rfl)
    (of_decide_eq_true (by kernel_rfl)) (by unfold Func.isWrapper; first | (rw [if_pos (by decide +kernel)]; kernel_rfl) | (rw [if_neg (by decide +kernel)]; exact ⟨rfl, rfl⟩))
    (fun os started H enc _ => lifted os started H enc)

/-- THE STATEMENT -/
theorem proved : Rows.FnSignExactTableSaid := over
#print axioms proved
end Go.Proofs.Qxb6605463a.fnSignExactTable
