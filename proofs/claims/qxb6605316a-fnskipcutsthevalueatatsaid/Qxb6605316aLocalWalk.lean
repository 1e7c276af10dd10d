/-
  THE WALK of 'FnNumberEndIsLocal' (5).
-/
import Derived.Test.Qxb6605316aNumEnd
import Derived.Test.Qxb6605316aNumLaws
import Derived.Test.Qxb6605316aClone
namespace Go.Proofs.Qxb6605316a.Local
open Go.RowKit
open Num Cl

/-- A slice of bytes that came in: nil, or n readable bytes t. -/
def Arg (w : World) (a : Option Addr) (n c : Nat) (t : Nat → Int) : Prop :=
  (a = none ∧ n = 0 ∧ c = 0) ∨ ∃ b off sp, a = some ⟨b, off, sp⟩ ∧ (0 < n → sp = none) ∧ (0 < n → b < w.heap.size) ∧ ∀ k, k < n → w.cell? ⟨b, off + k, none⟩ = some (.int .u8 (t k))

theorem Arg.kept {w w' : World} {a : Option Addr} {n c : Nat} {t : Nat → Int} (h : Arg w a n c t) (hb : Below w.heap.size w w') : Arg w' a n c t := by
  rcases h with h | ⟨b, off, sp, h1, h2, h3, h4⟩
  · exact .inl h
  · refine .inr ⟨b, off, sp, h1, h2, fun h => ?_, fun k hk => ?_⟩
    · have := h3 h; have := hb.size; omega
    · rw [hb.cell (p := ⟨b, off + k, none⟩) (h3 (by omega))]; exact h4 k hk

/-- cloneBytes, nil or not. -/
theorem clone_arg (a : Option Addr) (n c : Nat) (t : Nat → Int) (w : World) (hn : n ≤ 1048576) (ha : Arg w a n c t) :
    Calls Try.prog 11 #[.slice a n c] w fun e w' => ∃ a', e = .returned (.slice a' n n) ∧ (0 < n → a' = some ⟨w.heap.size, 0, none⟩ ∧ Own w' w.heap.size n n t) ∧ Below w.heap.size w w' := by
  rcases ha with ⟨rfl, rfl, rfl⟩ | ⟨b, off, sp, rfl, h2, h3, h4⟩
  · refine (clone_nil w).mono ?_
    rintro e w' ⟨rfl, rfl⟩
    exact ⟨none, rfl, fun h => by omega, Below.refl _ _⟩
  · refine (clone_any b off n c sp t w hn h4 h3 h2).mono ?_
    rintro e w' ⟨rfl, h5, h6⟩
    exact ⟨_, rfl, fun _ => ⟨rfl, h5⟩, h6⟩

/-- ZZNumberEnd. -/
theorem zznum_any (b off n c a : Nat) (t : Nat → Int) (w : World) (hn : n ≤ 1048576) (ha : a < n) (hc : ∀ k, k < n → w.cell? ⟨b, off + k, none⟩ = some (.int .u8 (t k))) :
    Calls Try.prog 12 #[.slice (some ⟨b, off, none⟩) n c, .int .i64 a] w fun e w' => e = .returned (.int .i64 (numEnd t n a)) ∧ w' = w := by
  go_enter Try.func12, Try.ntmps12
  go_wp2_with (go_at_call 22; refine (number_any b off n c a t _ hn ha hc).mono ?_; rintro e w' ⟨rfl, rfl⟩)
  go_ret
  exact ⟨rfl, rfl⟩

theorem zz_yes (a0 a1 : Option Addr) (n0 c0 n1 c1 : Nat) (x : Int) (w : World) (h : n0 + n1 ≤ 1048576) :
    Calls Try.prog 14 #[.slice a0 n0 c0, .slice a1 n1 c1, .int .i64 x] w fun e w' => e = .returned (.bool true) ∧ w' = w := by
  go_enter Try.func14, Try.ntmps14
  go_wp2
  go_ret
  exact ⟨rfl, rfl⟩
theorem zz_no (a0 a1 : Option Addr) (n0 c0 n1 c1 : Nat) (x : Int) (w : World) (h0 : n0 ≤ 9223372036854775807) (h1 : n1 ≤ 9223372036854775807) (h : 1048576 < n0 + n1) :
    Calls Try.prog 14 #[.slice a0 n0 c0, .slice a1 n1 c1, .int .i64 x] w fun e w' => e = .returned (.bool false) ∧ w' = w := by
  by_cases g0 : 1048576 < n0
  · go_enter Try.func14, Try.ntmps14
    go_wp2
    go_ret
    exact ⟨rfl, rfl⟩
  · by_cases g1 : 1048576 < n1
    · go_enter Try.func14, Try.ntmps14
      go_wp2
      go_ret
      exact ⟨rfl, rfl⟩
    · go_enter Try.func14, Try.ntmps14
      go_wp2
      go_ret
      exact ⟨rfl, rfl⟩

/-- The bytes of 'joined'. -/
def J (n0 : Nat) (t0 t1 : Nat → Int) (k : Nat) : Int := if k < n0 then t0 k else t1 (k - n0)
theorem J_lo {n0 : Nat} {t0 t1 : Nat → Int} {k : Nat} (h : k < n0) : J n0 t0 t1 k = t0 k := if_pos h
theorem J_hi {n0 : Nat} {t0 t1 : Nat → Int} (k : Nat) : J n0 t0 t1 (n0 + k) = t1 k := by
  unfold J; rw [if_neg (by omega), Nat.add_sub_cancel_left]

set_option maxRecDepth 100000 in
/-- The law's ways that end at once. -/
theorem out_big (a0 a1 : Option Addr) (n0 c0 n1 c1 : Nat) (x : Int) (w : World) (h0 : n0 ≤ 9223372036854775807) (h1 : n1 ≤ 9223372036854775807) (h : 1048576 < n0 + n1) :
    Calls Try.prog 5 #[.slice a0 n0 c0, .slice a1 n1 c1, .int .i64 x] w fun e w' => e = .returned (.bool true) ∧ Below w.heap.size w w' := by
  go_enter Try.func5, Try.ntmps5
  go_wp2_with (go_at_call 14; refine (zz_no _ _ _ _ _ _ _ _ h0 h1 h).mono ?_; rintro e w' ⟨rfl, rfl⟩)
  go_ret
  exact ⟨rfl, Below.refl _ _⟩
set_option maxRecDepth 100000 in
theorem out_off (a0 a1 : Option Addr) (n0 c0 n1 c1 : Nat) (x : Int) (w : World) (h : n0 + n1 ≤ 1048576) (hx : x < 0 ∨ (n1 : Int) ≤ x) :
    Calls Try.prog 5 #[.slice a0 n0 c0, .slice a1 n1 c1, .int .i64 x] w fun e w' => e = .returned (.bool true) ∧ Below w.heap.size w w' := by
  have g0 : ¬ (1048576 : Int) < n0 := by omega
  have g1 : ¬ (1048576 : Int) < n1 := by omega
  have g2 : ¬ (1048576 : Int) < n0 + n1 := by omega
  by_cases hx0 : x < 0
  · clear hx
    go_enter Try.func5, Try.ntmps5
    go_wp2_with (go_at_call 14; refine (zz_yes _ _ _ _ _ _ _ _ h).mono ?_; rintro e w' ⟨rfl, rfl⟩)
    go_ret
    exact ⟨rfl, Below.refl _ _⟩
  · have hx1 : (n1 : Int) ≤ x := by omega
    clear hx
    go_enter Try.func5, Try.ntmps5
    go_wp2_with (go_at_call 14; refine (zz_yes _ _ _ _ _ _ _ _ h).mono ?_; rintro e w' ⟨rfl, rfl⟩)
    go_ret
    exact ⟨rfl, Below.refl _ _⟩
end Go.Proofs.Qxb6605316a.Local
