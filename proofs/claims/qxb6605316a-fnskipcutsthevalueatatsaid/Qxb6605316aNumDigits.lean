/-
  THE WALKS of 'digitsEnd' (30).
-/
import Derived.Test.Qxb6605316aRows
import Derived.Test.Qxb6605316aNumPlain
import Derived.WalkKit
namespace Go.Proofs.Qxb6605316a.Num
open Go.RowKit

theorem ret_int {k : IntKind} {a b : Int} (h : a = b) : Ending.returned (.int k a) = .returned (.int k b) := by rw [h]

theorem out_no {d : Int} {k a : Nat} (E : d = if k = a then -1 else (k : Int)) (h : ((k : Int) == (a : Int)) = true) : Ending.returned (.int .i64 (-1)) = .returned (.int .i64 d) := by
  have : k = a := by have := eq_of_beq h; omega
  rw [E, if_pos this]
theorem out_yes {d : Int} {k a : Nat} (E : d = if k = a then -1 else (k : Int)) (h : ((k : Int) == (a : Int)) = false) : Ending.returned (.int .i64 (k : Int)) = .returned (.int .i64 d) := by
  have : ¬ k = a := by have := ne_of_beq_false h; omega
  rw [E, if_neg this]

/-- digitsEnd over a row of n bytes. -/
theorem digits_any (b off n c a : Nat) (t : Nat → Int) (w : World) (hn : n ≤ 1048576) (ha : a ≤ n) (hc : ∀ k, k < n → w.cell? ⟨b, off + k, none⟩ = some (.int .u8 (t k))) :
    Calls Try.prog 30 #[.slice (some ⟨b, off, none⟩) n c, .int .i64 a] w fun e w' => e = .returned (.int .i64 (dEnd t n a)) ∧ w' = w := by
  go_enter Try.func30, Try.ntmps30
  go_wp2
  go_loop [1] (fun x => ∃ k : Nat, a ≤ k ∧ k ≤ n ∧ x = .int .i64 k ∧ Hid (run t n (n - k) k = run t n (n - a) a)) (fun x => n - (intOf x).toNat)
  case atStart => exact ⟨a, Nat.le_refl _, ha, rfl, rfl⟩
  case round =>
    obtain ⟨k, h1, h2, rfl, H⟩ := hrel
    by_cases hk : k < n
    · have hcell := hc k hk
      by_cases d1 : 48 ≤ t k
      · by_cases d2 : t k ≤ 57
        · have H2 : Hid (run t n (n - (k + 1)) (k + 1) = run t n (n - a) a) := (run_step hk d1 d2).symm.trans H.out
          clear H
          go_wp2
          go_round
          case rel => exact ⟨k + 1, by omega, by omega, by go_num, H2⟩
          case measure => simp [intOf]; omega
        · have E : Hid (dEnd t n a = if k = a then -1 else (k : Int)) := dEnd_out H.out (by omega)
          clear H
          go_wp2
          all_goals (go_ret; first | exact ⟨out_no E.out ‹_›, rfl⟩ | exact ⟨out_yes E.out ‹_›, rfl⟩)
      · have E : Hid (dEnd t n a = if k = a then -1 else (k : Int)) := dEnd_out H.out (by omega)
        clear H
        go_wp2
        all_goals (go_ret; first | exact ⟨out_no E.out ‹_›, rfl⟩ | exact ⟨out_yes E.out ‹_›, rfl⟩)
    · have E : Hid (dEnd t n a = if k = a then -1 else (k : Int)) := dEnd_out H.out (by omega)
      clear H
      go_wp2
      all_goals (go_ret; first | exact ⟨out_no E.out ‹_›, rfl⟩ | exact ⟨out_yes E.out ‹_›, rfl⟩)
end Go.Proofs.Qxb6605316a.Num
