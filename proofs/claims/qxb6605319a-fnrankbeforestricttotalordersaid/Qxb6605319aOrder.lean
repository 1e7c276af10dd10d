/-
  The law 'FnRankBeforeStrictTotalOrder' (4).
-/
import Derived.Test.Qxb6605319aBefore
namespace Go.Proofs.Qxb6605319a.Rank
open Go.RowKit

set_option maxRecDepth 100000 in
set_option maxHeartbeats 4000000 in
/-- Whatever the five answers are, where they meet the order's laws. -/
theorem order_core (aS aW bS bW cS cW : Int) (same ab ba bc ac : Bool) (hsame : ((aS == bS) = true ∧ (aW == bW) = true ∧ same = true ∧ ab = false ∧ ba = false) ∨ (same = false ∧ ba = !ab ∧ ((aS == bS) = false ∨ ((aS == bS) = true ∧ (aW == bW) = false))))
    (h1 : Hid (bef aS aW bS bW = ab)) (h2 : Hid (bef bS bW aS aW = ba)) (h3 : Hid (bef aS aW aS aW = false)) (h4 : Hid (bef bS bW cS cW = bc)) (h5 : Hid (bef aS aW cS cW = ac)) (ht : ab = true → bc = true → ac = true) (w : World) :
    Calls Try.prog 4 #[.int .u64 aS, .int .u64 aW, .int .u64 bS, .int .u64 bW, .int .u64 cS, .int .u64 cW] w fun e w' => e = .returned (.bool true) ∧ Grown w w' := by
  rcases hsame with ⟨q1, q2, rfl, rfl, rfl⟩ | ⟨rfl, rfl, q1 | ⟨q1, q2⟩⟩
  all_goals
    try cases ab
    all_goals
      cases bc
      all_goals
        cases ac
        all_goals try (exact absurd (ht rfl rfl) (by decide))
        all_goals
          clear ht
          go_enter Try.func4, Try.ntmps4
          go_wp2_with fail
          refine (zz_is aS aW bS bW _ h1.out _).mono ?_
          rintro e w' ⟨rfl, c1, c2, rfl⟩
          go_wp2_with fail
          refine (zz_is bS bW aS aW _ h2.out _).mono ?_
          rintro e w' ⟨rfl, c3, c4, rfl⟩
          go_wp2_with fail
          refine (zz_is aS aW aS aW _ h3.out _).mono ?_
          rintro e w' ⟨rfl, c5, c6, rfl⟩
          go_wp2_with fail
          refine (zz_is bS bW cS cW _ h4.out _).mono ?_
          rintro e w' ⟨rfl, c7, c8, rfl⟩
          go_wp2_with fail
          refine (zz_is aS aW cS cW _ h5.out _).mono ?_
          rintro e w' ⟨rfl, c9, c10, rfl⟩
          go_wp2_with fail
          go_ret
          exact ⟨rfl, ((((((((((Grown.refl _).alloc _ _).alloc _ _).alloc _ _).alloc _ _).alloc _ _).alloc _ _).alloc _ _).alloc _ _).alloc _ _).alloc _ _⟩

theorem law_order (aS aW bS bW cS cW : Int) (w : World) :
    Calls Try.prog 4 #[.int .u64 aS, .int .u64 aW, .int .u64 bS, .int .u64 bW, .int .u64 cS, .int .u64 cW] w fun e w' => e = .returned (.bool true) ∧ Grown w w' := by
  by_cases hs : aS = bS ∧ aW = bW
  · obtain ⟨rfl, rfl⟩ := hs
    exact order_core aS aW aS aW cS cW true false false _ _ (.inl ⟨by simp, by simp, rfl, rfl, rfl⟩) (bef_irrefl _ _) (bef_irrefl _ _) (bef_irrefl _ _) rfl rfl (fun h => by cases h) w
  · refine order_core aS aW bS bW cS cW false _ _ _ _ (.inr ⟨rfl, ?_, ?_⟩) rfl rfl (bef_irrefl _ _) rfl rfl (fun h h' => bef_trans h h') w
    · exact bef_one (fun q => hs ⟨q.1.symm, q.2.symm⟩)
    · by_cases h1 : aS = bS
      · right; exact ⟨by simp [h1], by simp; exact fun h => hs ⟨h1, h⟩⟩
      · left; simp [h1]
end Go.Proofs.Qxb6605319a.Rank
