/-
  THE WALK of 'cloneBytes' (11): nil stays nil; else a row of the call's own with the same bytes.
-/
import Derived.Test.Qxb6605316aRows
import Derived.WalkKit
import Derived.WalkSpells
namespace Go.Proofs.Qxb6605316a.Cl
open Go.RowKit

theorem info5 : (Try.prog.info? 5).map (fun i => (i.zero, i.size, i.bytes)) = some (some (.int .u8 0), 1, 1) := by kernel_rfl

/-- A row of n bytes of the call's own at the head of block B, of which the first k are t's. -/
def Own (W : World) (B n k : Nat) (t : Nat → Int) : Prop :=
  ∃ xs : List Value, W.ownsRow B 5 1 (.slice (some ⟨B, 0, none⟩) n n) n xs ∧ ∀ j, j < k → xs[j]? = some (.int .u8 (t j))

theorem Own.lt {W : World} {B n k : Nat} {t : Nat → Int} (h : Own W B n k t) : B < W.heap.size := by
  obtain ⟨xs, h, _⟩ := h
  rcases h.2 with ⟨h', _⟩ | ⟨g', cap', cur, h', _, hg, _⟩
  · simp at h'
  · simp only [Value.slice.injEq, Option.some.injEq, Addr.mk.injEq, and_true, true_and] at h'
    obtain ⟨rfl, rfl⟩ := h'
    exact (Array.getElem?_eq_some_iff.1 hg).1
theorem Own.cell {W : World} {B n k : Nat} {t : Nat → Int} (h : Own W B n k t) {j : Nat} (hj : j < k) (hk : k ≤ n) : W.cell? ⟨B, j, none⟩ = some (.int .u8 (t j)) := by
  obtain ⟨xs, h, hx⟩ := h
  rw [h.cellAt j (by omega), hx j hj]
theorem Own.some {W : World} {B n k : Nat} {t : Nat → Int} (h : Own W B n k t) {j : Nat} (hj : j < n) : ∃ v, W.cell? ⟨B, j, none⟩ = some v := by
  obtain ⟨xs, h, hx⟩ := h
  have hl : j < xs.length := by have := h.1; omega
  exact ⟨xs[j], by rw [h.cellAt j (by omega), List.getElem?_eq_getElem hl]⟩
theorem Own.free {W : World} {B n k : Nat} {t : Nat → Int} (h : Own W B n k t) (j : Nat) : W.frozen? ⟨B, j, none⟩ = false := by
  obtain ⟨xs, h, _⟩ := h
  exact h.frozenAt j
theorem Own.store {W : World} {B n k : Nat} {t : Nat → Int} (h : Own W B n k t) (hk : k < n) : Own (W.setCell ⟨B, k, none⟩ (.int .u8 (t k))) B n (k + 1) t := by
  obtain ⟨xs, h, hx⟩ := h
  refine ⟨_, (h.stored k (.int .u8 (t k))).1, fun j hj => ?_⟩
  have hl : xs.length = n := by have := h.1; omega
  by_cases e : j = k
  · subst e; simp [hl, hk]
  · rw [List.getElem?_set_ne (by omega)]; exact hx j (by omega)
theorem Own.kept {B' : Nat} {W W' : World} {B n k : Nat} {t : Nat → Int} (h : Own W B n k t) (hb : Below B' W W') (hB : B < B') : Own W' B n k t := by
  obtain ⟨xs, h, hx⟩ := h
  refine ⟨xs, ⟨h.1, ?_⟩, hx⟩
  rcases h.2 with h' | ⟨g', cap', cur, h', hle, hg, hr⟩
  · exact .inl h'
  · refine .inr ⟨g', cap', cur, h', hle, ?_, hr⟩
    simp only [Value.slice.injEq, Option.some.injEq, Addr.mk.injEq, and_true, true_and] at h'
    obtain ⟨rfl, rfl⟩ := h'
    rw [hb.block B hB]; exact hg

theorem eqlNil (w : World) (a : Option Addr) (n c n' c' : Nat) : (binOp .eql 23 (.slice a n c) (.slice none n' c')).run Try.prog w = .ok (.bool a.isNone) w :=
  Lib.run_eql_slice_nil w _ _ a n c n' c' Try.underlying23

theorem clone_nil (w : World) : Calls Try.prog 11 #[.slice none 0 0] w fun e w' => e = .returned (.slice none 0 0) ∧ w' = w := by
  have q := eqlNil
  go_enter Try.func11, Try.ntmps11
  go_wp2
  go_ret
  exact ⟨rfl, rfl⟩

/-- A slice that is not nil: a copy in a new block. -/
theorem clone_any (b off n c : Nat) (sp : _) (t : Nat → Int) (w : World) (hn : n ≤ 1048576) (hc : ∀ k, k < n → w.cell? ⟨b, off + k, none⟩ = some (.int .u8 (t k))) (hb : 0 < n → b < w.heap.size) (hsp : 0 < n → sp = none) :
    Calls Try.prog 11 #[.slice (some ⟨b, off, sp⟩) n c] w fun e w' => e = .returned (.slice (some ⟨w.heap.size, 0, none⟩) n n) ∧ Own w' w.heap.size n n t ∧ Below w.heap.size w w' := by
  have q := eqlNil
  obtain ⟨i0, hi, hz0, hz1, hz2⟩ := info_parts info5
  go_enter Try.func11, Try.ntmps11
  go_wp2_with (at_make; refine wpList_make_full _ rfl _ _ 23 rfl w.heap.size 5 i0 (.int .u8 0) 1 Try.underlying23 hi hz0 hz1 _ _ _ _ n rfl rfl rfl rfl (by rw [hz2]; omega) (by unfold maxLen; omega) (Nat.le_refl _) ?_; intro w1 hown hgrow)
  have hO : Own w1 w.heap.size n 0 t := ⟨_, by assumption, fun j hj => by omega⟩
  have hB : Below w.heap.size w w1 := (Below.refl _ _).grown (by assumption) (Nat.le_refl _) (fun k hk => by cases hk)
  clear hown hgrow q hi hz0 hz1 hz2
  go_wp2_with fail
  go_loopw [4] (fun x wr => ∃ k : Nat, k ≤ n ∧ x = .int .i64 k ∧ Own wr w.heap.size n k t ∧ Below w.heap.size w wr) (fun x _ => n - (intOf x).toNat)
  case atStart => exact ⟨0, Nat.zero_le _, rfl, hO, hB⟩
  case round =>
    clear hO hB
    obtain ⟨k, hk, rfl, hO, hB⟩ := hrel
    by_cases hlt : k < n
    · obtain rfl := hsp (by omega)
      have hcell : wr.cell? ⟨b, off + k, none⟩ = some (.int .u8 (t k)) := (hB.cell (p := ⟨b, off + k, none⟩) (hb (by omega))).trans (hc k hlt)
      obtain ⟨v0, hv0⟩ := hO.some hlt
      have hfr := hO.free k
      have hO2 := hO.store hlt
      have hB2 : Below w.heap.size w (wr.setCell ⟨w.heap.size, k, none⟩ (.int .u8 (t k))) := hB.setCell (Nat.le_refl _) _
      clear hO hB
      go_wp2_with fail
      go_roundw
      case rel => exact ⟨k + 1, by omega, by go_num, hO2, hB2⟩
      case measure => simp [intOf]; omega
    · obtain rfl : k = n := by omega
      go_wp2_with fail
      go_ret
      exact ⟨rfl, hO, hB⟩
end Go.Proofs.Qxb6605316a.Cl
