/-
  PLAIN: the leading numbers of a sorted row; next as accept leaves it.
-/
import Derived.Test.Qxb6600458aAccept
namespace Go.Proofs.Qxb6600458a.Acc

theorem lead_bd {t : Nat → Int} {n : Nat} {i : Int} : ∀ f k, k ≤ n → k ≤ lead t n i f k ∧ lead t n i f k ≤ n ∧ ∀ j, k ≤ j → j < lead t n i f k → t j ≤ i := by
  intro f
  induction f with
  | zero => intro k hk; exact ⟨Nat.le_refl _, hk, fun j h1 h2 => by rw [lead] at h2; omega⟩
  | succ f ih =>
    intro k hk
    rw [lead]
    split
    · rename_i h
      obtain ⟨a, b, c⟩ := ih (k + 1) (by omega)
      refine ⟨by omega, b, fun j h1 h2 => ?_⟩
      by_cases e : j = k
      · subst e; exact h.2
      · exact c j (by omega) h2
    · exact ⟨Nat.le_refl _, hk, fun j h1 h2 => by omega⟩
theorem lead_at {t : Nat → Int} {n : Nat} {i : Int} : ∀ f k, f = n - k → lead t n i f k < n → i < t (lead t n i f k) := by
  intro f
  induction f with
  | zero => intro k hf h; rw [lead] at h; omega
  | succ f ih =>
    intro k hf
    rw [lead]
    split
    · exact ih (k + 1) (by omega)
    · intro h; omega
theorem sorted_le {t : Nat → Int} {n : Nat} (hs : ∀ j, j + 1 < n → t j ≤ t (j + 1)) : ∀ d a, a + d < n → t a ≤ t (a + d) := by
  intro d
  induction d with
  | zero => intro a _; exact Int.le_refl _
  | succ d ih =>
    intro a h
    have h1 := ih a (by omega)
    have h2 := hs (a + d) (by omega)
    have e : a + (d + 1) = a + d + 1 := by omega
    rw [e]; omega
/-- What the law's last loop wants of K. -/
theorem lead_split {t : Nat → Int} {n K : Nat} {i : Int} (hs : ∀ j, j + 1 < n → t j ≤ t (j + 1)) (hK : lead t n i n 0 = K) : K ≤ n ∧ (∀ j, j < K → t j ≤ i) ∧ ∀ j, K ≤ j → j < n → i < t j := by
  obtain ⟨_, b, c⟩ := lead_bd (t := t) (n := n) (i := i) n 0 (Nat.zero_le _)
  have d := lead_at (t := t) (n := n) (i := i) n 0 rfl
  rw [hK] at b c d
  refine ⟨b, fun j hj => c j (Nat.zero_le _) hj, fun j h1 h2 => ?_⟩
  have h3 := sorted_le hs (j - K) K (by omega)
  rw [show K + (j - K) = j by omega] at h3
  have h4 := d (by omega)
  omega

theorem wrap_in {x : Int} (h0 : 0 ≤ x) (h1 : x < 18446744073709551616) : IntKind.u64.wrap x = x := by
  simp [IntKind.wrap, IntKind.signed, IntKind.bits]
  omega
theorem wrap_top : IntKind.u64.wrap (18446744073709551615 + 1) = 0 := rfl
/-- A uint64. -/
def Word (x : Int) : Prop := 0 ≤ x ∧ x < 18446744073709551616
theorem nxt_max {nx mx : Int} (h : Word nx) (hm : mx = 18446744073709551615) : nxt nx mx = nx := by
  subst hm
  unfold nxt
  rw [wrap_top, if_neg (by have := h.1; omega)]
theorem nxt_gt {nx mx : Int} (h : Word mx) (hm : ¬ mx = 18446744073709551615) (hlt : mx < nx) : nxt nx mx = nx := by
  unfold nxt
  rw [wrap_in (by have := h.1; omega) (by have := h.2; omega), if_neg (by omega)]
theorem nxt_le {nx mx : Int} (h : Word mx) (hm : ¬ mx = 18446744073709551615) (hle : nx ≤ mx) : nxt nx mx = IntKind.u64.wrap (mx + 1) := by
  unfold nxt
  rw [wrap_in (by have := h.1; omega) (by have := h.2; omega), if_pos (by omega)]
end Go.Proofs.Qxb6600458a.Acc
