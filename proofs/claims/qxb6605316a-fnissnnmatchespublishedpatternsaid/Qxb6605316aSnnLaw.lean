/-
  THE PLAIN LAW: 'isSNN' and 'snnPattern' say the same. No Go in sight but the names of the two functions' answers.
-/
import Derived.Test.Qxb6605316aSnnIs
import Derived.Test.Qxb6605316aSnnPat
namespace Go.Proofs.Qxb6605316a.Snn

theorem fitD {s : ByteArray} {k : Nat} (h : bt F k = 35) : fit s k = decide (48 ≤ bt s k ∧ bt s k ≤ 57) := by
  unfold fit; rw [h]; simp
theorem fitL {s : ByteArray} {k : Nat} {c : Int} (h : bt F k = c) (hc : c ≠ 35) : fit s k = decide (bt s k = c) := by
  unfold fit; rw [h]; simp [hc]

set_option maxRecDepth 100000 in
theorem form_eq (s : ByteArray) : all (fit s) 32 = (litB s 0 LA && (decB s 6 3 && (litB s 9 LB && (decB s 13 3 && litB s 16 LC)))) := by
  have f0 : fit s 0 = decide (bt s 0 = 53) := fitL (by rfl) (by decide)
  have f1 : fit s 1 = decide (bt s 1 = 71) := fitL (by rfl) (by decide)
  have f2 : fit s 2 = decide (bt s 2 = 58) := fitL (by rfl) (by decide)
  have f3 : fit s 3 = decide (bt s 3 = 109) := fitL (by rfl) (by decide)
  have f4 : fit s 4 = decide (bt s 4 = 110) := fitL (by rfl) (by decide)
  have f5 : fit s 5 = decide (bt s 5 = 99) := fitL (by rfl) (by decide)
  have f6 : fit s 6 = decide (48 ≤ bt s 6 ∧ bt s 6 ≤ 57) := fitD (by rfl)
  have f7 : fit s 7 = decide (48 ≤ bt s 7 ∧ bt s 7 ≤ 57) := fitD (by rfl)
  have f8 : fit s 8 = decide (48 ≤ bt s 8 ∧ bt s 8 ≤ 57) := fitD (by rfl)
  have f9 : fit s 9 = decide (bt s 9 = 46) := fitL (by rfl) (by decide)
  have f10 : fit s 10 = decide (bt s 10 = 109) := fitL (by rfl) (by decide)
  have f11 : fit s 11 = decide (bt s 11 = 99) := fitL (by rfl) (by decide)
  have f12 : fit s 12 = decide (bt s 12 = 99) := fitL (by rfl) (by decide)
  have f13 : fit s 13 = decide (48 ≤ bt s 13 ∧ bt s 13 ≤ 57) := fitD (by rfl)
  have f14 : fit s 14 = decide (48 ≤ bt s 14 ∧ bt s 14 ≤ 57) := fitD (by rfl)
  have f15 : fit s 15 = decide (48 ≤ bt s 15 ∧ bt s 15 ≤ 57) := fitD (by rfl)
  have f16 : fit s 16 = decide (bt s 16 = 46) := fitL (by rfl) (by decide)
  have f17 : fit s 17 = decide (bt s 17 = 51) := fitL (by rfl) (by decide)
  have f18 : fit s 18 = decide (bt s 18 = 103) := fitL (by rfl) (by decide)
  have f19 : fit s 19 = decide (bt s 19 = 112) := fitL (by rfl) (by decide)
  have f20 : fit s 20 = decide (bt s 20 = 112) := fitL (by rfl) (by decide)
  have f21 : fit s 21 = decide (bt s 21 = 110) := fitL (by rfl) (by decide)
  have f22 : fit s 22 = decide (bt s 22 = 101) := fitL (by rfl) (by decide)
  have f23 : fit s 23 = decide (bt s 23 = 116) := fitL (by rfl) (by decide)
  have f24 : fit s 24 = decide (bt s 24 = 119) := fitL (by rfl) (by decide)
  have f25 : fit s 25 = decide (bt s 25 = 111) := fitL (by rfl) (by decide)
  have f26 : fit s 26 = decide (bt s 26 = 114) := fitL (by rfl) (by decide)
  have f27 : fit s 27 = decide (bt s 27 = 107) := fitL (by rfl) (by decide)
  have f28 : fit s 28 = decide (bt s 28 = 46) := fitL (by rfl) (by decide)
  have f29 : fit s 29 = decide (bt s 29 = 111) := fitL (by rfl) (by decide)
  have f30 : fit s 30 = decide (bt s 30 = 114) := fitL (by rfl) (by decide)
  have f31 : fit s 31 = decide (bt s 31 = 103) := fitL (by rfl) (by decide)
  have eLA : litB s 0 LA = ((((((true && decide (bt s 0 = 53)) && decide (bt s 1 = 71)) && decide (bt s 2 = 58)) && decide (bt s 3 = 109)) && decide (bt s 4 = 110)) && decide (bt s 5 = 99)) := by rfl
  have eLB : litB s 9 LB = ((((true && decide (bt s 9 = 46)) && decide (bt s 10 = 109)) && decide (bt s 11 = 99)) && decide (bt s 12 = 99)) := by rfl
  have eLC : litB s 16 LC = ((((((((((((((((true && decide (bt s 16 = 46)) && decide (bt s 17 = 51)) && decide (bt s 18 = 103)) && decide (bt s 19 = 112)) && decide (bt s 20 = 112)) && decide (bt s 21 = 110)) && decide (bt s 22 = 101)) && decide (bt s 23 = 116)) && decide (bt s 24 = 119)) && decide (bt s 25 = 111)) && decide (bt s 26 = 114)) && decide (bt s 27 = 107)) && decide (bt s 28 = 46)) && decide (bt s 29 = 111)) && decide (bt s 30 = 114)) && decide (bt s 31 = 103)) := by rfl
  have ed6 : decB s 6 3 = (((true && decide (48 ≤ bt s 6 ∧ bt s 6 ≤ 57)) && decide (48 ≤ bt s 7 ∧ bt s 7 ≤ 57)) && decide (48 ≤ bt s 8 ∧ bt s 8 ≤ 57)) := by rfl
  have ed13 : decB s 13 3 = (((true && decide (48 ≤ bt s 13 ∧ bt s 13 ≤ 57)) && decide (48 ≤ bt s 14 ∧ bt s 14 ≤ 57)) && decide (48 ≤ bt s 15 ∧ bt s 15 ≤ 57)) := by rfl
  have eF : all (fit s) 32 = ((((((((((((((((((((((((((((((((true && fit s 0) && fit s 1) && fit s 2) && fit s 3) && fit s 4) && fit s 5) && fit s 6) && fit s 7) && fit s 8) && fit s 9) && fit s 10) && fit s 11) && fit s 12) && fit s 13) && fit s 14) && fit s 15) && fit s 16) && fit s 17) && fit s 18) && fit s 19) && fit s 20) && fit s 21) && fit s 22) && fit s 23) && fit s 24) && fit s 25) && fit s 26) && fit s 27) && fit s 28) && fit s 29) && fit s 30) && fit s 31) := by rfl
  rw [eF, eLA, eLB, eLC, ed6, ed13]
  rw [f0, f1, f2, f3, f4, f5, f6, f7, f8, f9, f10, f11, f12, f13, f14, f15, f16, f17, f18, f19, f20, f21, f22, f23, f24, f25, f26, f27, f28, f29, f30, f31]
  simp only [Bool.true_and, Bool.and_assoc]

theorem colon_eq (s : ByteArray) : litB s 32 LD = decide (bt s 32 = 58) := by
  have e : litB s 32 LD = (true && decide (bt s 32 = 58)) := by rfl
  rw [e, Bool.true_and]
theorem isB_patB (s : ByteArray) : isB s = patB s := by
  rw [isB, patB, form_eq, colon_eq]

theorem seven_eq {s : ByteArray} (h : s.size = 7) : (s.toList == [53, 71, 58, 78, 83, 87, 79]) = litB s 0 L7 := by
  cases e : litB s 0 L7 with
  | true =>
    rw [litB, all_iff] at e
    rw [beq_iff_eq, ByteArray.toList_eq]
    apply List.ext_getElem
    · rw [Array.length_toList]; exact h
    · intro j h1 h2
      have hj : j < 7 := h2
      have hjs : j < s.size := by omega
      have q := of_decide_eq_true (e j hj)
      rw [Nat.zero_add, bt_eq hjs, bt_eq (s := L7) (k := j) hj] at q
      have q2 : s[j].toNat = (L7[j]'hj).toNat := by omega
      exact UInt8.toNat_inj.1 q2
  | false =>
    cases e2 : s.toList == [53, 71, 58, 78, 83, 87, 79] with
    | false => rfl
    | true =>
      rw [beq_iff_eq, ByteArray.toList_eq] at e2
      have e3 : s = L7 := by
        cases s with
        | mk d =>
          cases d with
          | mk l =>
            have : l = [53, 71, 58, 78, 83, 87, 79] := e2
            rw [this]
      rw [e3] at e
      have : litB L7 0 L7 = true := by decide
      rw [this] at e
      cases e
theorem not_seven {s : ByteArray} (h : ¬ s.size = 7) : (s.toList == [53, 71, 58, 78, 83, 87, 79]) = false := by
  cases e2 : s.toList == [53, 71, 58, 78, 83, 87, 79] with
  | false => rfl
  | true =>
    rw [beq_iff_eq, ByteArray.toList_eq] at e2
    have := congrArg List.length e2
    rw [Array.length_toList] at this
    exact absurd this h
end Go.Proofs.Qxb6605316a.Snn
