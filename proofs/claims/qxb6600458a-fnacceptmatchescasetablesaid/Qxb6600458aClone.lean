/-
  THE WALK of 'cloneU64' (9): nil stays nil; else a row of the call's own with the same numbers.
-/
import Derived.Test.Qxb6600458aRows
import Derived.WalkKit
import Derived.WalkSpells
namespace Go.Proofs.Qxb6600458a.Cl
open Go.RowKit

theorem info24 : (Try.prog.info? 24).map (fun i => (i.zero, i.size, i.bytes)) = some (some (.int .u64 0), 1, 8) := by kernel_rfl

/-- A row of n numbers of the call's own at the head of block B, of which the first k are t's. -/
def Own (W : World) (B n k : Nat) (t : Nat → Int) : Prop :=
  ∃ xs : List Value, W.ownsRow B 24 1 (.slice (some ⟨B, 0, none⟩) n n) n xs ∧ ∀ j, j < k → xs[j]? = some (.int .u64 (t j))

theorem Own.lt {W : World} {B n k : Nat} {t : Nat → Int} (h : Own W B n k t) : B < W.heap.size := by
  obtain ⟨xs, h, _⟩ := h
  rcases h.2 with ⟨h', _⟩ | ⟨g', cap', cur, h', _, hg, _⟩
  · simp at h'
  · simp only [Value.slice.injEq, Option.some.injEq, Addr.mk.injEq, and_true, true_and] at h'
    obtain ⟨rfl, rfl⟩ := h'
    exact (Array.getElem?_eq_some_iff.1 hg).1
theorem Own.cell {W : World} {B n k : Nat} {t : Nat → Int} (h : Own W B n k t) {j : Nat} (hj : j < k) (hk : k ≤ n) : W.cell? ⟨B, j, none⟩ = some (.int .u64 (t j)) := by
  obtain ⟨xs, h, hx⟩ := h
  rw [h.cellAt j (by omega), hx j hj]
theorem Own.some {W : World} {B n k : Nat} {t : Nat → Int} (h : Own W B n k t) {j : Nat} (hj : j < n) : ∃ v, W.cell? ⟨B, j, none⟩ = some v := by
  obtain ⟨xs, h, hx⟩ := h
  have hl : j < xs.length := by have := h.1; omega
  exact ⟨xs[j], by rw [h.cellAt j (by omega), List.getElem?_eq_getElem hl]⟩
theorem Own.free {W : World} {B n k : Nat} {t : Nat → Int} (h : Own W B n k t) (j : Nat) : W.frozen? ⟨B, j, none⟩ = false := by
  obtain ⟨xs, h, _⟩ := h
  exact h.frozenAt j
theorem Own.store {W : World} {B n k : Nat} {t : Nat → Int} (h : Own W B n k t) (hk : k < n) : Own (W.setCell ⟨B, k, none⟩ (.int .u64 (t k))) B n (k + 1) t := by
  obtain ⟨xs, h, hx⟩ := h
  refine ⟨_, (h.stored k (.int .u64 (t k))).1, fun j hj => ?_⟩
  have hl : xs.length = n := by have := h.1; omega
  by_cases e : j = k
  · subst e; simp [hl, hk]
  · rw [List.getElem?_set_ne (by omega)]; exact hx j (by omega)
theorem Own.kept {B' : Nat} {W W' : World} {B n k : Nat} {t : Nat → Int} (h : Own W B n k t) (hb : Below B' W W') (hB : B < B') : Own W' B n k t := by
  obtain ⟨xs, h, hx⟩ := h
  refine ⟨xs, ⟨h.1, ?_⟩, hx⟩
  rcases h.2 with h' | ⟨g', cap', cur, h', hle, hg, hr⟩
  · exact .inl h'
  · refine .inr ⟨g', cap', cur, h', hle, ?_, hr⟩
    simp only [Value.slice.injEq, Option.some.injEq, Addr.mk.injEq, and_true, true_and] at h'
    obtain ⟨rfl, rfl⟩ := h'
    rw [hb.block B hB]; exact hg

theorem eqlNil (w : World) (a : Option Addr) (n c n' c' : Nat) : (binOp .eql 22 (.slice a n c) (.slice none n' c')).run Try.prog w = .ok (.bool a.isNone) w :=
  Lib.run_eql_slice_nil w _ _ a n c n' c' Try.underlying22

theorem clone_nil (w : World) : Calls Try.prog 9 #[.slice none 0 0] w fun e w' => e = .returned (.slice none 0 0) ∧ w' = w := by
  have q := eqlNil
  go_enter Try.func9, Try.ntmps9
  go_wp2
  go_ret
  exact ⟨rfl, rfl⟩

/-- A slice that is not nil: a copy in a new block. -/
theorem clone_any (b off n c : Nat) (sp : _) (t : Nat → Int) (w : World) (hn : n ≤ 131072) (hc : ∀ k, k < n → w.cell? ⟨b, off + k, none⟩ = some (.int .u64 (t k))) (hb : 0 < n → b < w.heap.size) (hsp : 0 < n → sp = none) :
    Calls Try.prog 9 #[.slice (some ⟨b, off, sp⟩) n c] w fun e w' => e = .returned (.slice (some ⟨w.heap.size, 0, none⟩) n n) ∧ Own w' w.heap.size n n t ∧ Below w.heap.size w w' := by
  have q := eqlNil
  obtain ⟨i0, hi, hz0, hz1, hz2⟩ := info_parts info24
  go_enter Try.func9, Try.ntmps9
  go_wp2_with (at_make; refine wpList_make_full _ rfl _ _ 22 rfl w.heap.size 24 i0 (.int .u64 0) 1 Try.underlying22 hi hz0 hz1 _ _ _ _ n rfl rfl rfl rfl (by rw [hz2]; omega) (by unfold maxLen; omega) (Nat.le_refl _) ?_; intro w1 hown hgrow)
  have hO : Own w1 w.heap.size n 0 t := ⟨_, by assumption, fun j hj => by omega⟩
  have hB : Below w.heap.size w w1 := (Below.refl _ _).grown (by assumption) (Nat.le_refl _) (fun k hk => by cases hk)
  clear hown hgrow q hi hz0 hz1 hz2
  go_wp2_with fail
  go_loopw [4] (fun x wr => ∃ k : Nat, k ≤ n ∧ x = .int .i64 k ∧ Own wr w.heap.size n k t ∧ Below w.heap.size w wr) (fun x _ => n - (intOf x).toNat)
  case atStart => exact ⟨0, Nat.zero_le _, rfl, hO, hB⟩
  case round =>
    clear hO hB
    obtain ⟨k, hk, rfl, hO, hB⟩ := hrel
    by_cases hlt : k < n
    · obtain rfl := hsp (by omega)
      have hcell : wr.cell? ⟨b, off + k, none⟩ = some (.int .u64 (t k)) := (hB.cell (p := ⟨b, off + k, none⟩) (hb (by omega))).trans (hc k hlt)
      obtain ⟨v0, hv0⟩ := hO.some hlt
      have hfr := hO.free k
      have hO2 := hO.store hlt
      have hB2 : Below w.heap.size w (wr.setCell ⟨w.heap.size, k, none⟩ (.int .u64 (t k))) := hB.setCell (Nat.le_refl _) _
      clear hO hB
      go_wp2_with fail
      go_roundw
      case rel => exact ⟨k + 1, by omega, by go_num, hO2, hB2⟩
      case measure => simp [intOf]; omega
    · obtain rfl : k = n := by omega
      go_wp2_with fail
      go_ret
      exact ⟨rfl, hO, hB⟩
end Go.Proofs.Qxb6600458a.Cl

namespace Go.Proofs.Qxb6600458a.Cl
open Go.RowKit
/-- A slice of numbers that came in: nil, or n readable numbers t. -/
def Arg (w : World) (a : Option Addr) (n c : Nat) (t : Nat → Int) : Prop :=
  (a = none ∧ n = 0 ∧ c = 0) ∨ ∃ b off sp, a = some ⟨b, off, sp⟩ ∧ (0 < n → sp = none) ∧ (0 < n → b < w.heap.size) ∧ ∀ k, k < n → w.cell? ⟨b, off + k, none⟩ = some (.int .u64 (t k))
theorem Arg.kept {w w' : World} {a : Option Addr} {n c : Nat} {t : Nat → Int} (h : Arg w a n c t) (hb : Below w.heap.size w w') : Arg w' a n c t := by
  rcases h with h | ⟨b, off, sp, h1, h2, h3, h4⟩
  · exact .inl h
  · refine .inr ⟨b, off, sp, h1, h2, fun h => ?_, fun k hk => ?_⟩
    · have := h3 h; have := hb.size; omega
    · rw [hb.cell (p := ⟨b, off + k, none⟩) (h3 (by omega))]; exact h4 k hk
theorem clone_arg (a : Option Addr) (n c : Nat) (t : Nat → Int) (w : World) (hn : n ≤ 131072) (ha : Arg w a n c t) :
    Calls Try.prog 9 #[.slice a n c] w fun e w' => ∃ a', e = .returned (.slice a' n n) ∧ (0 < n → a' = some ⟨w.heap.size, 0, none⟩ ∧ Own w' w.heap.size n n t) ∧ Below w.heap.size w w' := by
  rcases ha with ⟨rfl, rfl, rfl⟩ | ⟨b, off, sp, rfl, h2, h3, h4⟩
  · refine (clone_nil w).mono ?_
    rintro e w' ⟨rfl, rfl⟩
    exact ⟨none, rfl, fun h => by omega, Below.refl _ _⟩
  · refine (clone_any b off n c sp t w hn h4 h3 h2).mono ?_
    rintro e w' ⟨rfl, h5, h6⟩
    exact ⟨_, rfl, fun _ => ⟨rfl, h5⟩, h6⟩
end Go.Proofs.Qxb6600458a.Cl
