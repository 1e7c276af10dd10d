/-
  THE WALK of 'progress.accept' (21).
-/
import Derived.Test.Qxb6600458aRows
import Derived.WalkKit
import Derived.RegionTactic
import Derived.BigRegion
import Derived.Deep.DeepCutAuto
import Derived.Deep.CutBlock
namespace Go.Proofs.Qxb6600458a.Acc
open Go.RowKit

theorem ret_bool {a b : Bool} (h : a = b) : Ending.returned (.bool a) = .returned (.bool b) := by rw [h]

/-- The progress in block D. -/
def Pr (W : World) (D : Nat) (m nx : Int) (pb wt : Bool) (v : Value) (sn : Int) (ac cu : Bool) (rr : Int) : Prop := W.cell? ⟨D, 0, none⟩ = some (.int .u64 m) ∧ W.cell? ⟨D, 1, none⟩ = some (.int .u64 nx) ∧ W.cell? ⟨D, 2, none⟩ = some (.bool pb) ∧ W.cell? ⟨D, 3, none⟩ = some (.bool wt) ∧ W.cell? ⟨D, 4, none⟩ = some (v) ∧ W.cell? ⟨D, 5, none⟩ = some (.int .u64 sn) ∧ W.cell? ⟨D, 6, none⟩ = some (.bool ac) ∧ W.cell? ⟨D, 7, none⟩ = some (.bool cu) ∧ W.cell? ⟨D, 8, none⟩ = some (.int .u64 rr) ∧ ∀ j, W.frozen? ⟨D, j, none⟩ = false
/-- next, as accept leaves it: max(next, match + 1). -/
def nxt (nx mx : Int) : Int := if nx < IntKind.u64.wrap (mx + 1) then IntKind.u64.wrap (mx + 1) else nx
theorem below_put {D : Nat} {w W : World} {j : Nat} {x : Value} (h : Below D w W) : Below D w (W.setCell ⟨D, j, none⟩ x) := h.setCell (p := ⟨D, j, none⟩) (Nat.le_refl D) x
theorem pr_set {W : World} {D : Nat} {m nx : Int} {pb wt : Bool} {v v' : Value} {sn : Int} {ac cu : Bool} {rr : Int} (h : Pr W D m nx pb wt v sn ac cu rr) : Pr (W.setCell ⟨D, 4, none⟩ v') D m nx pb wt v' sn ac cu rr := by
  obtain ⟨c0, c1, c2, c3, c4, c5, c6, c7, c8, f⟩ := h
  have o : ∀ j, j ≠ 4 → (W.setCell ⟨D, 4, none⟩ v').cell? ⟨D, j, none⟩ = W.cell? ⟨D, j, none⟩ := fun j hj => World.cell?_setCell_other W ⟨D, 4, none⟩ ⟨D, j, none⟩ v' (fun q => hj (congrArg Addr.off q).symm)
  exact ⟨(o 0 (by omega)).trans c0, (o 1 (by omega)).trans c1, (o 2 (by omega)).trans c2, (o 3 (by omega)).trans c3, World.cell?_setCell_same _ _ _ c4, (o 5 (by omega)).trans c5, (o 6 (by omega)).trans c6, (o 7 (by omega)).trans c7, (o 8 (by omega)).trans c8, fun j => by rw [World.frozen?_setCell]; exact f j⟩
/-- How many leading numbers are at most i. -/
def lead (t : Nat → Int) (n : Nat) (i : Int) : Nat → Nat → Nat
  | 0, k => k
  | f + 1, k => if k < n ∧ t k ≤ i then lead t n i f (k + 1) else k
theorem lead_go {t : Nat → Int} {n k : Nat} {i : Int} (h : k < n) (hp : t k ≤ i) : lead t n i (n - k) k = lead t n i (n - (k + 1)) (k + 1) := by
  obtain ⟨f, hf⟩ : ∃ f, n - k = f + 1 := ⟨n - k - 1, by omega⟩
  rw [hf, lead, if_pos ⟨h, hp⟩, show n - (k + 1) = f by omega]
theorem lead_stop {t : Nat → Int} {n k : Nat} {i : Int} (hp : ¬ (k < n ∧ t k ≤ i)) (f : Nat) : lead t n i f k = k := by
  cases f with
  | zero => rfl
  | succ f => rw [lead, if_neg hp]

/-- The rest of the numbers, as a slice of the same array. -/
def Rest (T n K : Nat) (v : Value) : Prop := ∃ (a : Option Addr) (c : Nat), v = .slice a (n - K) c ∧ (K < n → a = some ⟨T, K, none⟩)

set_option maxRecDepth 100000 in
set_option maxHeartbeats 4000000 in
theorem accept_pos (D n T K : Nat) (m nx sn rr i mx sn' : Int) (pb wt ac cu : Bool) (t : Nat → Int) (w : World) (hn : n ≤ 131072) (h0 : 0 < n) (hT : T < D)
    (hP : Pr w D m nx pb wt (.slice (some ⟨T, 0, none⟩) n n) sn ac cu rr) (hc : ∀ k, k < n → w.cell? ⟨T, k, none⟩ = some (.int .u64 (t k))) (hK : Hid (lead t n i n 0 = K))
    (mv : Bool) (hmx : (m < i ∧ i = mx ∧ true = mv) ∨ (i ≤ m ∧ m = mx ∧ false = mv)) (hsn : (sn ≤ i ∧ 0 = sn') ∨ (i < sn ∧ sn = sn')) :
    Calls Try.prog 21 #[.pointer (some ⟨D, 0, none⟩), .int .u64 i] w fun e w' => e = .returned (.bool mv) ∧ (∃ v, Pr w' D mx (nxt nx mx) false false v sn' ac cu rr ∧ Rest T n K v) ∧ Below D w w' := by
  obtain ⟨c0, c1, c2, c3, c4, c5, c6, c7, c8, f⟩ := hP
  have HC : Hid (∀ W, Below D w W → ∀ k, k < n → W.cell? ⟨T, k, none⟩ = some (.int .u64 (t k))) := fun W hW k hk => (hW.cell (p := ⟨T, k, none⟩) hT).trans (hc k hk)
  clear hc
  rcases hmx with ⟨h, rfl, rfl⟩ | ⟨h, rfl, rfl⟩
  · rcases hsn with ⟨g, rfl⟩ | ⟨g, rfl⟩
    · have hfold : (if nx < IntKind.u64.wrap (i + 1) then IntKind.u64.wrap (i + 1) else nx) = nxt nx i := rfl
      go_enter Try.func21, Try.ntmps21
      go_upto_region 3 with fail
      go_cut [] (fun wx => Pr wx D i (nxt nx i) pb wt (.slice (some ⟨T, 0, none⟩) n n) sn ac cu rr ∧ Below D w wx)
      case first =>
        go_region
        all_goals go_wp2_with fail
        all_goals go_meet
        case rel => exact ⟨⟨by go_simp, by go_simp, by go_simp, by go_simp, by go_simp, by go_simp, by go_simp, by go_simp, by go_simp, by intro j; simp [f]⟩, (((Below.refl D w).setCell (p := ⟨D, 0, none⟩) (Nat.le_refl D) _).setCell (p := ⟨D, 1, none⟩) (Nat.le_refl D) _).drew⟩
      case rest =>
        clear c0 c1 c2 c3 c4 c5 c6 c7 c8 f hfold
        obtain ⟨⟨c0, c1, c2, c3, c4, c5, c6, c7, c8, f⟩, hB⟩ := hcut
        have HB : Hid (Below D w wc) := hB
        clear hB
        go_upto_region 7 with fail
        go_cut [6] (fun x wx => x = .int .i64 0 ∧ Pr wx D i (nxt nx i) false false (.slice (some ⟨T, 0, none⟩) n n) 0 ac cu rr ∧ Below D w wx)
        case first =>
          go_wp2_with fail
          go_meet
          case rel => exact ⟨rfl, ⟨by go_simp, by go_simp, by go_simp, by go_simp, by go_simp, by go_simp, by go_simp, by go_simp, by go_simp, by intro j; simp [f]⟩, (by repeat (first | exact HB.out | apply Below.drew | apply below_put))⟩
        case rest =>
          clear c0 c1 c2 c3 c4 c5 c6 c7 c8 f HB
          obtain ⟨rfl, hPr, hB⟩ := hcut
          have HPr : Hid (Pr wc D i (nxt nx i) false false (.slice (some ⟨T, 0, none⟩) n n) 0 ac cu rr) := hPr
          obtain ⟨c0, c1, c2, c3, c4, c5, c6, c7, c8, f⟩ := hPr
          have HB : Hid (Below D w wc) := hB
          have hcc := HC.out wc hB
          clear hB HC
          go_wp2_with fail
          go_loopg [6] n (fun g x wx => wc = wx ∧ ∃ k : Nat, k ≤ n ∧ g = n - k ∧ x = .int .i64 k ∧ Hid (lead t n i (n - k) k = K))
          case atStart => exact ⟨rfl, 0, Nat.zero_le _, rfl, rfl, hK⟩
          case round =>
            obtain ⟨rfl, k, hk, rfl, rfl, H⟩ := hrel
            by_cases hlt : k < n
            · have hcell := hcc k hlt
              by_cases hle : t k ≤ i
              · have H2 : Hid (lead t n i (n - (k + 1)) (k + 1) = K) := (lead_go hlt hle).symm.trans H.out
                go_wp2_with fail
                go_roundg (n - (k + 1))
                case rel => exact ⟨rfl, k + 1, by omega, rfl, by go_num, H2⟩
                case measure => omega
              · obtain rfl : k = K := (lead_stop (fun q => hle q.2) _).symm.trans H.out
                have n1 : ¬ n = k := by omega
                go_wp2_with fail
                go_ret
                exact ⟨rfl, ⟨_, pr_set HPr.out, _, _, rfl, fun _ => rfl⟩, below_put HB.out⟩
            · obtain rfl : k = K := (lead_stop (fun q => hlt q.1) _).symm.trans H.out
              obtain rfl : n = k := by omega
              go_wp2_with fail
              go_ret
              exact ⟨rfl, ⟨_, pr_set HPr.out, some ⟨T, 0, none⟩, 0, by rw [Nat.sub_self], fun h => by omega⟩, below_put HB.out⟩
    · have hfold : (if nx < IntKind.u64.wrap (i + 1) then IntKind.u64.wrap (i + 1) else nx) = nxt nx i := rfl
      go_enter Try.func21, Try.ntmps21
      go_upto_region 3 with fail
      go_cut [] (fun wx => Pr wx D i (nxt nx i) pb wt (.slice (some ⟨T, 0, none⟩) n n) sn ac cu rr ∧ Below D w wx)
      case first =>
        go_region
        all_goals go_wp2_with fail
        all_goals go_meet
        case rel => exact ⟨⟨by go_simp, by go_simp, by go_simp, by go_simp, by go_simp, by go_simp, by go_simp, by go_simp, by go_simp, by intro j; simp [f]⟩, (((Below.refl D w).setCell (p := ⟨D, 0, none⟩) (Nat.le_refl D) _).setCell (p := ⟨D, 1, none⟩) (Nat.le_refl D) _).drew⟩
      case rest =>
        clear c0 c1 c2 c3 c4 c5 c6 c7 c8 f hfold
        obtain ⟨⟨c0, c1, c2, c3, c4, c5, c6, c7, c8, f⟩, hB⟩ := hcut
        have HB : Hid (Below D w wc) := hB
        clear hB
        go_upto_region 7 with fail
        go_cut [6] (fun x wx => x = .int .i64 0 ∧ Pr wx D i (nxt nx i) false false (.slice (some ⟨T, 0, none⟩) n n) sn ac cu rr ∧ Below D w wx)
        case first =>
          go_wp2_with fail
          go_meet
          case rel => exact ⟨rfl, ⟨by go_simp, by go_simp, by go_simp, by go_simp, by go_simp, by go_simp, by go_simp, by go_simp, by go_simp, by intro j; simp [f]⟩, (by repeat (first | exact HB.out | apply Below.drew | apply below_put))⟩
        case rest =>
          clear c0 c1 c2 c3 c4 c5 c6 c7 c8 f HB
          obtain ⟨rfl, hPr, hB⟩ := hcut
          have HPr : Hid (Pr wc D i (nxt nx i) false false (.slice (some ⟨T, 0, none⟩) n n) sn ac cu rr) := hPr
          obtain ⟨c0, c1, c2, c3, c4, c5, c6, c7, c8, f⟩ := hPr
          have HB : Hid (Below D w wc) := hB
          have hcc := HC.out wc hB
          clear hB HC
          go_wp2_with fail
          go_loopg [6] n (fun g x wx => wc = wx ∧ ∃ k : Nat, k ≤ n ∧ g = n - k ∧ x = .int .i64 k ∧ Hid (lead t n i (n - k) k = K))
          case atStart => exact ⟨rfl, 0, Nat.zero_le _, rfl, rfl, hK⟩
          case round =>
            obtain ⟨rfl, k, hk, rfl, rfl, H⟩ := hrel
            by_cases hlt : k < n
            · have hcell := hcc k hlt
              by_cases hle : t k ≤ i
              · have H2 : Hid (lead t n i (n - (k + 1)) (k + 1) = K) := (lead_go hlt hle).symm.trans H.out
                go_wp2_with fail
                go_roundg (n - (k + 1))
                case rel => exact ⟨rfl, k + 1, by omega, rfl, by go_num, H2⟩
                case measure => omega
              · obtain rfl : k = K := (lead_stop (fun q => hle q.2) _).symm.trans H.out
                have n1 : ¬ n = k := by omega
                go_wp2_with fail
                go_ret
                exact ⟨rfl, ⟨_, pr_set HPr.out, _, _, rfl, fun _ => rfl⟩, below_put HB.out⟩
            · obtain rfl : k = K := (lead_stop (fun q => hlt q.1) _).symm.trans H.out
              obtain rfl : n = k := by omega
              go_wp2_with fail
              go_ret
              exact ⟨rfl, ⟨_, pr_set HPr.out, some ⟨T, 0, none⟩, 0, by rw [Nat.sub_self], fun h => by omega⟩, below_put HB.out⟩
  · have hd : decide (m < i) = false := decide_eq_false (by omega)
    rcases hsn with ⟨g, rfl⟩ | ⟨g, rfl⟩
    · have hfold : (if nx < IntKind.u64.wrap (m + 1) then IntKind.u64.wrap (m + 1) else nx) = nxt nx m := rfl
      go_enter Try.func21, Try.ntmps21
      go_upto_region 3 with fail
      go_cut [] (fun wx => Pr wx D m (nxt nx m) pb wt (.slice (some ⟨T, 0, none⟩) n n) sn ac cu rr ∧ Below D w wx)
      case first =>
        go_region
        all_goals go_wp2_with fail
        all_goals go_meet
        case rel => exact ⟨⟨by go_simp, by go_simp, by go_simp, by go_simp, by go_simp, by go_simp, by go_simp, by go_simp, by go_simp, by intro j; simp [f]⟩, (((Below.refl D w).setCell (p := ⟨D, 0, none⟩) (Nat.le_refl D) _).setCell (p := ⟨D, 1, none⟩) (Nat.le_refl D) _).drew⟩
      case rest =>
        clear c0 c1 c2 c3 c4 c5 c6 c7 c8 f hfold
        obtain ⟨⟨c0, c1, c2, c3, c4, c5, c6, c7, c8, f⟩, hB⟩ := hcut
        have HB : Hid (Below D w wc) := hB
        clear hB
        go_upto_region 7 with fail
        go_cut [6] (fun x wx => x = .int .i64 0 ∧ Pr wx D m (nxt nx m) false false (.slice (some ⟨T, 0, none⟩) n n) 0 ac cu rr ∧ Below D w wx)
        case first =>
          go_wp2_with fail
          go_meet
          case rel => exact ⟨rfl, ⟨by go_simp, by go_simp, by go_simp, by go_simp, by go_simp, by go_simp, by go_simp, by go_simp, by go_simp, by intro j; simp [f]⟩, (by repeat (first | exact HB.out | apply Below.drew | apply below_put))⟩
        case rest =>
          clear c0 c1 c2 c3 c4 c5 c6 c7 c8 f HB
          obtain ⟨rfl, hPr, hB⟩ := hcut
          have HPr : Hid (Pr wc D m (nxt nx m) false false (.slice (some ⟨T, 0, none⟩) n n) 0 ac cu rr) := hPr
          obtain ⟨c0, c1, c2, c3, c4, c5, c6, c7, c8, f⟩ := hPr
          have HB : Hid (Below D w wc) := hB
          have hcc := HC.out wc hB
          clear hB HC
          go_wp2_with fail
          go_loopg [6] n (fun g x wx => wc = wx ∧ ∃ k : Nat, k ≤ n ∧ g = n - k ∧ x = .int .i64 k ∧ Hid (lead t n i (n - k) k = K))
          case atStart => exact ⟨rfl, 0, Nat.zero_le _, rfl, rfl, hK⟩
          case round =>
            obtain ⟨rfl, k, hk, rfl, rfl, H⟩ := hrel
            by_cases hlt : k < n
            · have hcell := hcc k hlt
              by_cases hle : t k ≤ i
              · have H2 : Hid (lead t n i (n - (k + 1)) (k + 1) = K) := (lead_go hlt hle).symm.trans H.out
                go_wp2_with fail
                go_roundg (n - (k + 1))
                case rel => exact ⟨rfl, k + 1, by omega, rfl, by go_num, H2⟩
                case measure => omega
              · obtain rfl : k = K := (lead_stop (fun q => hle q.2) _).symm.trans H.out
                have n1 : ¬ n = k := by omega
                go_wp2_with fail
                go_ret
                exact ⟨rfl, ⟨_, pr_set HPr.out, _, _, rfl, fun _ => rfl⟩, below_put HB.out⟩
            · obtain rfl : k = K := (lead_stop (fun q => hlt q.1) _).symm.trans H.out
              obtain rfl : n = k := by omega
              go_wp2_with fail
              go_ret
              exact ⟨rfl, ⟨_, pr_set HPr.out, some ⟨T, 0, none⟩, 0, by rw [Nat.sub_self], fun h => by omega⟩, below_put HB.out⟩
    · have hfold : (if nx < IntKind.u64.wrap (m + 1) then IntKind.u64.wrap (m + 1) else nx) = nxt nx m := rfl
      go_enter Try.func21, Try.ntmps21
      go_upto_region 3 with fail
      go_cut [] (fun wx => Pr wx D m (nxt nx m) pb wt (.slice (some ⟨T, 0, none⟩) n n) sn ac cu rr ∧ Below D w wx)
      case first =>
        go_region
        all_goals go_wp2_with fail
        all_goals go_meet
        case rel => exact ⟨⟨by go_simp, by go_simp, by go_simp, by go_simp, by go_simp, by go_simp, by go_simp, by go_simp, by go_simp, by intro j; simp [f]⟩, (((Below.refl D w).setCell (p := ⟨D, 0, none⟩) (Nat.le_refl D) _).setCell (p := ⟨D, 1, none⟩) (Nat.le_refl D) _).drew⟩
      case rest =>
        clear c0 c1 c2 c3 c4 c5 c6 c7 c8 f hfold
        obtain ⟨⟨c0, c1, c2, c3, c4, c5, c6, c7, c8, f⟩, hB⟩ := hcut
        have HB : Hid (Below D w wc) := hB
        clear hB
        go_upto_region 7 with fail
        go_cut [6] (fun x wx => x = .int .i64 0 ∧ Pr wx D m (nxt nx m) false false (.slice (some ⟨T, 0, none⟩) n n) sn ac cu rr ∧ Below D w wx)
        case first =>
          go_wp2_with fail
          go_meet
          case rel => exact ⟨rfl, ⟨by go_simp, by go_simp, by go_simp, by go_simp, by go_simp, by go_simp, by go_simp, by go_simp, by go_simp, by intro j; simp [f]⟩, (by repeat (first | exact HB.out | apply Below.drew | apply below_put))⟩
        case rest =>
          clear c0 c1 c2 c3 c4 c5 c6 c7 c8 f HB
          obtain ⟨rfl, hPr, hB⟩ := hcut
          have HPr : Hid (Pr wc D m (nxt nx m) false false (.slice (some ⟨T, 0, none⟩) n n) sn ac cu rr) := hPr
          obtain ⟨c0, c1, c2, c3, c4, c5, c6, c7, c8, f⟩ := hPr
          have HB : Hid (Below D w wc) := hB
          have hcc := HC.out wc hB
          clear hB HC
          go_wp2_with fail
          go_loopg [6] n (fun g x wx => wc = wx ∧ ∃ k : Nat, k ≤ n ∧ g = n - k ∧ x = .int .i64 k ∧ Hid (lead t n i (n - k) k = K))
          case atStart => exact ⟨rfl, 0, Nat.zero_le _, rfl, rfl, hK⟩
          case round =>
            obtain ⟨rfl, k, hk, rfl, rfl, H⟩ := hrel
            by_cases hlt : k < n
            · have hcell := hcc k hlt
              by_cases hle : t k ≤ i
              · have H2 : Hid (lead t n i (n - (k + 1)) (k + 1) = K) := (lead_go hlt hle).symm.trans H.out
                go_wp2_with fail
                go_roundg (n - (k + 1))
                case rel => exact ⟨rfl, k + 1, by omega, rfl, by go_num, H2⟩
                case measure => omega
              · obtain rfl : k = K := (lead_stop (fun q => hle q.2) _).symm.trans H.out
                have n1 : ¬ n = k := by omega
                go_wp2_with fail
                go_ret
                exact ⟨rfl, ⟨_, pr_set HPr.out, _, _, rfl, fun _ => rfl⟩, below_put HB.out⟩
            · obtain rfl : k = K := (lead_stop (fun q => hlt q.1) _).symm.trans H.out
              obtain rfl : n = k := by omega
              go_wp2_with fail
              go_ret
              exact ⟨rfl, ⟨_, pr_set HPr.out, some ⟨T, 0, none⟩, 0, by rw [Nat.sub_self], fun h => by omega⟩, below_put HB.out⟩

set_option maxRecDepth 100000 in
set_option maxHeartbeats 4000000 in
theorem accept_none (D T : Nat) (m nx sn rr i mx sn' : Int) (pb wt ac cu : Bool) (w : World)
    (hP : Pr w D m nx pb wt (.slice none 0 0) sn ac cu rr)
    (mv : Bool) (hmx : (m < i ∧ i = mx ∧ true = mv) ∨ (i ≤ m ∧ m = mx ∧ false = mv)) (hsn : (sn ≤ i ∧ 0 = sn') ∨ (i < sn ∧ sn = sn')) :
    Calls Try.prog 21 #[.pointer (some ⟨D, 0, none⟩), .int .u64 i] w fun e w' => e = .returned (.bool mv) ∧ (∃ v, Pr w' D mx (nxt nx mx) false false v sn' ac cu rr ∧ Rest T 0 0 v) ∧ Below D w w' := by
  obtain ⟨c0, c1, c2, c3, c4, c5, c6, c7, c8, f⟩ := hP
  rcases hmx with ⟨h, rfl, rfl⟩ | ⟨h, rfl, rfl⟩
  · rcases hsn with ⟨g, rfl⟩ | ⟨g, rfl⟩
    · have hfold : (if nx < IntKind.u64.wrap (i + 1) then IntKind.u64.wrap (i + 1) else nx) = nxt nx i := rfl
      go_enter Try.func21, Try.ntmps21
      go_upto_region 3 with fail
      go_cut [] (fun wx => Pr wx D i (nxt nx i) pb wt (.slice none 0 0) sn ac cu rr ∧ Below D w wx)
      case first =>
        go_region
        all_goals go_wp2_with fail
        all_goals go_meet
        case rel => exact ⟨⟨by go_simp, by go_simp, by go_simp, by go_simp, by go_simp, by go_simp, by go_simp, by go_simp, by go_simp, by intro j; simp [f]⟩, (((Below.refl D w).setCell (p := ⟨D, 0, none⟩) (Nat.le_refl D) _).setCell (p := ⟨D, 1, none⟩) (Nat.le_refl D) _).drew⟩
      case rest =>
        clear c0 c1 c2 c3 c4 c5 c6 c7 c8 f hfold
        obtain ⟨⟨c0, c1, c2, c3, c4, c5, c6, c7, c8, f⟩, hB⟩ := hcut
        have HB : Hid (Below D w wc) := hB
        clear hB
        go_upto_region 7 with fail
        go_cut [6] (fun x wx => x = .int .i64 0 ∧ Pr wx D i (nxt nx i) false false (.slice none 0 0) 0 ac cu rr ∧ Below D w wx)
        case first =>
          go_wp2_with fail
          go_meet
          case rel => exact ⟨rfl, ⟨by go_simp, by go_simp, by go_simp, by go_simp, by go_simp, by go_simp, by go_simp, by go_simp, by go_simp, by intro j; simp [f]⟩, (by repeat (first | exact HB.out | apply Below.drew | apply below_put))⟩
        case rest =>
          clear c0 c1 c2 c3 c4 c5 c6 c7 c8 f HB
          obtain ⟨rfl, hPr, hB⟩ := hcut
          have HPr : Hid (Pr wc D i (nxt nx i) false false (.slice none 0 0) 0 ac cu rr) := hPr
          obtain ⟨c0, c1, c2, c3, c4, c5, c6, c7, c8, f⟩ := hPr
          have HB : Hid (Below D w wc) := hB
          clear hB
          go_wp2_with fail
          refine wp_loop_rounds 1 ?_
          rw [rounds_succ]
          go_wp2_with fail
          go_ret
          exact ⟨rfl, ⟨_, pr_set HPr.out, _, _, rfl, fun h => by omega⟩, below_put HB.out⟩
    · have hfold : (if nx < IntKind.u64.wrap (i + 1) then IntKind.u64.wrap (i + 1) else nx) = nxt nx i := rfl
      go_enter Try.func21, Try.ntmps21
      go_upto_region 3 with fail
      go_cut [] (fun wx => Pr wx D i (nxt nx i) pb wt (.slice none 0 0) sn ac cu rr ∧ Below D w wx)
      case first =>
        go_region
        all_goals go_wp2_with fail
        all_goals go_meet
        case rel => exact ⟨⟨by go_simp, by go_simp, by go_simp, by go_simp, by go_simp, by go_simp, by go_simp, by go_simp, by go_simp, by intro j; simp [f]⟩, (((Below.refl D w).setCell (p := ⟨D, 0, none⟩) (Nat.le_refl D) _).setCell (p := ⟨D, 1, none⟩) (Nat.le_refl D) _).drew⟩
      case rest =>
        clear c0 c1 c2 c3 c4 c5 c6 c7 c8 f hfold
        obtain ⟨⟨c0, c1, c2, c3, c4, c5, c6, c7, c8, f⟩, hB⟩ := hcut
        have HB : Hid (Below D w wc) := hB
        clear hB
        go_upto_region 7 with fail
        go_cut [6] (fun x wx => x = .int .i64 0 ∧ Pr wx D i (nxt nx i) false false (.slice none 0 0) sn ac cu rr ∧ Below D w wx)
        case first =>
          go_wp2_with fail
          go_meet
          case rel => exact ⟨rfl, ⟨by go_simp, by go_simp, by go_simp, by go_simp, by go_simp, by go_simp, by go_simp, by go_simp, by go_simp, by intro j; simp [f]⟩, (by repeat (first | exact HB.out | apply Below.drew | apply below_put))⟩
        case rest =>
          clear c0 c1 c2 c3 c4 c5 c6 c7 c8 f HB
          obtain ⟨rfl, hPr, hB⟩ := hcut
          have HPr : Hid (Pr wc D i (nxt nx i) false false (.slice none 0 0) sn ac cu rr) := hPr
          obtain ⟨c0, c1, c2, c3, c4, c5, c6, c7, c8, f⟩ := hPr
          have HB : Hid (Below D w wc) := hB
          clear hB
          go_wp2_with fail
          refine wp_loop_rounds 1 ?_
          rw [rounds_succ]
          go_wp2_with fail
          go_ret
          exact ⟨rfl, ⟨_, pr_set HPr.out, _, _, rfl, fun h => by omega⟩, below_put HB.out⟩
  · have hd : decide (m < i) = false := decide_eq_false (by omega)
    rcases hsn with ⟨g, rfl⟩ | ⟨g, rfl⟩
    · have hfold : (if nx < IntKind.u64.wrap (m + 1) then IntKind.u64.wrap (m + 1) else nx) = nxt nx m := rfl
      go_enter Try.func21, Try.ntmps21
      go_upto_region 3 with fail
      go_cut [] (fun wx => Pr wx D m (nxt nx m) pb wt (.slice none 0 0) sn ac cu rr ∧ Below D w wx)
      case first =>
        go_region
        all_goals go_wp2_with fail
        all_goals go_meet
        case rel => exact ⟨⟨by go_simp, by go_simp, by go_simp, by go_simp, by go_simp, by go_simp, by go_simp, by go_simp, by go_simp, by intro j; simp [f]⟩, (((Below.refl D w).setCell (p := ⟨D, 0, none⟩) (Nat.le_refl D) _).setCell (p := ⟨D, 1, none⟩) (Nat.le_refl D) _).drew⟩
      case rest =>
        clear c0 c1 c2 c3 c4 c5 c6 c7 c8 f hfold
        obtain ⟨⟨c0, c1, c2, c3, c4, c5, c6, c7, c8, f⟩, hB⟩ := hcut
        have HB : Hid (Below D w wc) := hB
        clear hB
        go_upto_region 7 with fail
        go_cut [6] (fun x wx => x = .int .i64 0 ∧ Pr wx D m (nxt nx m) false false (.slice none 0 0) 0 ac cu rr ∧ Below D w wx)
        case first =>
          go_wp2_with fail
          go_meet
          case rel => exact ⟨rfl, ⟨by go_simp, by go_simp, by go_simp, by go_simp, by go_simp, by go_simp, by go_simp, by go_simp, by go_simp, by intro j; simp [f]⟩, (by repeat (first | exact HB.out | apply Below.drew | apply below_put))⟩
        case rest =>
          clear c0 c1 c2 c3 c4 c5 c6 c7 c8 f HB
          obtain ⟨rfl, hPr, hB⟩ := hcut
          have HPr : Hid (Pr wc D m (nxt nx m) false false (.slice none 0 0) 0 ac cu rr) := hPr
          obtain ⟨c0, c1, c2, c3, c4, c5, c6, c7, c8, f⟩ := hPr
          have HB : Hid (Below D w wc) := hB
          clear hB
          go_wp2_with fail
          refine wp_loop_rounds 1 ?_
          rw [rounds_succ]
          go_wp2_with fail
          go_ret
          exact ⟨rfl, ⟨_, pr_set HPr.out, _, _, rfl, fun h => by omega⟩, below_put HB.out⟩
    · have hfold : (if nx < IntKind.u64.wrap (m + 1) then IntKind.u64.wrap (m + 1) else nx) = nxt nx m := rfl
      go_enter Try.func21, Try.ntmps21
      go_upto_region 3 with fail
      go_cut [] (fun wx => Pr wx D m (nxt nx m) pb wt (.slice none 0 0) sn ac cu rr ∧ Below D w wx)
      case first =>
        go_region
        all_goals go_wp2_with fail
        all_goals go_meet
        case rel => exact ⟨⟨by go_simp, by go_simp, by go_simp, by go_simp, by go_simp, by go_simp, by go_simp, by go_simp, by go_simp, by intro j; simp [f]⟩, (((Below.refl D w).setCell (p := ⟨D, 0, none⟩) (Nat.le_refl D) _).setCell (p := ⟨D, 1, none⟩) (Nat.le_refl D) _).drew⟩
      case rest =>
        clear c0 c1 c2 c3 c4 c5 c6 c7 c8 f hfold
        obtain ⟨⟨c0, c1, c2, c3, c4, c5, c6, c7, c8, f⟩, hB⟩ := hcut
        have HB : Hid (Below D w wc) := hB
        clear hB
        go_upto_region 7 with fail
        go_cut [6] (fun x wx => x = .int .i64 0 ∧ Pr wx D m (nxt nx m) false false (.slice none 0 0) sn ac cu rr ∧ Below D w wx)
        case first =>
          go_wp2_with fail
          go_meet
          case rel => exact ⟨rfl, ⟨by go_simp, by go_simp, by go_simp, by go_simp, by go_simp, by go_simp, by go_simp, by go_simp, by go_simp, by intro j; simp [f]⟩, (by repeat (first | exact HB.out | apply Below.drew | apply below_put))⟩
        case rest =>
          clear c0 c1 c2 c3 c4 c5 c6 c7 c8 f HB
          obtain ⟨rfl, hPr, hB⟩ := hcut
          have HPr : Hid (Pr wc D m (nxt nx m) false false (.slice none 0 0) sn ac cu rr) := hPr
          obtain ⟨c0, c1, c2, c3, c4, c5, c6, c7, c8, f⟩ := hPr
          have HB : Hid (Below D w wc) := hB
          clear hB
          go_wp2_with fail
          refine wp_loop_rounds 1 ?_
          rw [rounds_succ]
          go_wp2_with fail
          go_ret
          exact ⟨rfl, ⟨_, pr_set HPr.out, _, _, rfl, fun h => by omega⟩, below_put HB.out⟩

set_option maxRecDepth 100000 in
set_option maxHeartbeats 4000000 in
theorem accept_some (D T : Nat) (ad : Addr) (m nx sn rr i mx sn' : Int) (pb wt ac cu : Bool) (w : World)
    (hP : Pr w D m nx pb wt (.slice (some ad) 0 0) sn ac cu rr)
    (mv : Bool) (hmx : (m < i ∧ i = mx ∧ true = mv) ∨ (i ≤ m ∧ m = mx ∧ false = mv)) (hsn : (sn ≤ i ∧ 0 = sn') ∨ (i < sn ∧ sn = sn')) :
    Calls Try.prog 21 #[.pointer (some ⟨D, 0, none⟩), .int .u64 i] w fun e w' => e = .returned (.bool mv) ∧ (∃ v, Pr w' D mx (nxt nx mx) false false v sn' ac cu rr ∧ Rest T 0 0 v) ∧ Below D w w' := by
  obtain ⟨c0, c1, c2, c3, c4, c5, c6, c7, c8, f⟩ := hP
  rcases hmx with ⟨h, rfl, rfl⟩ | ⟨h, rfl, rfl⟩
  · rcases hsn with ⟨g, rfl⟩ | ⟨g, rfl⟩
    · have hfold : (if nx < IntKind.u64.wrap (i + 1) then IntKind.u64.wrap (i + 1) else nx) = nxt nx i := rfl
      go_enter Try.func21, Try.ntmps21
      go_upto_region 3 with fail
      go_cut [] (fun wx => Pr wx D i (nxt nx i) pb wt (.slice (some ad) 0 0) sn ac cu rr ∧ Below D w wx)
      case first =>
        go_region
        all_goals go_wp2_with fail
        all_goals go_meet
        case rel => exact ⟨⟨by go_simp, by go_simp, by go_simp, by go_simp, by go_simp, by go_simp, by go_simp, by go_simp, by go_simp, by intro j; simp [f]⟩, (((Below.refl D w).setCell (p := ⟨D, 0, none⟩) (Nat.le_refl D) _).setCell (p := ⟨D, 1, none⟩) (Nat.le_refl D) _).drew⟩
      case rest =>
        clear c0 c1 c2 c3 c4 c5 c6 c7 c8 f hfold
        obtain ⟨⟨c0, c1, c2, c3, c4, c5, c6, c7, c8, f⟩, hB⟩ := hcut
        have HB : Hid (Below D w wc) := hB
        clear hB
        go_upto_region 7 with fail
        go_cut [6] (fun x wx => x = .int .i64 0 ∧ Pr wx D i (nxt nx i) false false (.slice (some ad) 0 0) 0 ac cu rr ∧ Below D w wx)
        case first =>
          go_wp2_with fail
          go_meet
          case rel => exact ⟨rfl, ⟨by go_simp, by go_simp, by go_simp, by go_simp, by go_simp, by go_simp, by go_simp, by go_simp, by go_simp, by intro j; simp [f]⟩, (by repeat (first | exact HB.out | apply Below.drew | apply below_put))⟩
        case rest =>
          clear c0 c1 c2 c3 c4 c5 c6 c7 c8 f HB
          obtain ⟨rfl, hPr, hB⟩ := hcut
          have HPr : Hid (Pr wc D i (nxt nx i) false false (.slice (some ad) 0 0) 0 ac cu rr) := hPr
          obtain ⟨c0, c1, c2, c3, c4, c5, c6, c7, c8, f⟩ := hPr
          have HB : Hid (Below D w wc) := hB
          clear hB
          go_wp2_with fail
          refine wp_loop_rounds 1 ?_
          rw [rounds_succ]
          go_wp2_with fail
          go_ret
          exact ⟨rfl, ⟨_, pr_set HPr.out, _, _, rfl, fun h => by omega⟩, below_put HB.out⟩
    · have hfold : (if nx < IntKind.u64.wrap (i + 1) then IntKind.u64.wrap (i + 1) else nx) = nxt nx i := rfl
      go_enter Try.func21, Try.ntmps21
      go_upto_region 3 with fail
      go_cut [] (fun wx => Pr wx D i (nxt nx i) pb wt (.slice (some ad) 0 0) sn ac cu rr ∧ Below D w wx)
      case first =>
        go_region
        all_goals go_wp2_with fail
        all_goals go_meet
        case rel => exact ⟨⟨by go_simp, by go_simp, by go_simp, by go_simp, by go_simp, by go_simp, by go_simp, by go_simp, by go_simp, by intro j; simp [f]⟩, (((Below.refl D w).setCell (p := ⟨D, 0, none⟩) (Nat.le_refl D) _).setCell (p := ⟨D, 1, none⟩) (Nat.le_refl D) _).drew⟩
      case rest =>
        clear c0 c1 c2 c3 c4 c5 c6 c7 c8 f hfold
        obtain ⟨⟨c0, c1, c2, c3, c4, c5, c6, c7, c8, f⟩, hB⟩ := hcut
        have HB : Hid (Below D w wc) := hB
        clear hB
        go_upto_region 7 with fail
        go_cut [6] (fun x wx => x = .int .i64 0 ∧ Pr wx D i (nxt nx i) false false (.slice (some ad) 0 0) sn ac cu rr ∧ Below D w wx)
        case first =>
          go_wp2_with fail
          go_meet
          case rel => exact ⟨rfl, ⟨by go_simp, by go_simp, by go_simp, by go_simp, by go_simp, by go_simp, by go_simp, by go_simp, by go_simp, by intro j; simp [f]⟩, (by repeat (first | exact HB.out | apply Below.drew | apply below_put))⟩
        case rest =>
          clear c0 c1 c2 c3 c4 c5 c6 c7 c8 f HB
          obtain ⟨rfl, hPr, hB⟩ := hcut
          have HPr : Hid (Pr wc D i (nxt nx i) false false (.slice (some ad) 0 0) sn ac cu rr) := hPr
          obtain ⟨c0, c1, c2, c3, c4, c5, c6, c7, c8, f⟩ := hPr
          have HB : Hid (Below D w wc) := hB
          clear hB
          go_wp2_with fail
          refine wp_loop_rounds 1 ?_
          rw [rounds_succ]
          go_wp2_with fail
          go_ret
          exact ⟨rfl, ⟨_, pr_set HPr.out, _, _, rfl, fun h => by omega⟩, below_put HB.out⟩
  · have hd : decide (m < i) = false := decide_eq_false (by omega)
    rcases hsn with ⟨g, rfl⟩ | ⟨g, rfl⟩
    · have hfold : (if nx < IntKind.u64.wrap (m + 1) then IntKind.u64.wrap (m + 1) else nx) = nxt nx m := rfl
      go_enter Try.func21, Try.ntmps21
      go_upto_region 3 with fail
      go_cut [] (fun wx => Pr wx D m (nxt nx m) pb wt (.slice (some ad) 0 0) sn ac cu rr ∧ Below D w wx)
      case first =>
        go_region
        all_goals go_wp2_with fail
        all_goals go_meet
        case rel => exact ⟨⟨by go_simp, by go_simp, by go_simp, by go_simp, by go_simp, by go_simp, by go_simp, by go_simp, by go_simp, by intro j; simp [f]⟩, (((Below.refl D w).setCell (p := ⟨D, 0, none⟩) (Nat.le_refl D) _).setCell (p := ⟨D, 1, none⟩) (Nat.le_refl D) _).drew⟩
      case rest =>
        clear c0 c1 c2 c3 c4 c5 c6 c7 c8 f hfold
        obtain ⟨⟨c0, c1, c2, c3, c4, c5, c6, c7, c8, f⟩, hB⟩ := hcut
        have HB : Hid (Below D w wc) := hB
        clear hB
        go_upto_region 7 with fail
        go_cut [6] (fun x wx => x = .int .i64 0 ∧ Pr wx D m (nxt nx m) false false (.slice (some ad) 0 0) 0 ac cu rr ∧ Below D w wx)
        case first =>
          go_wp2_with fail
          go_meet
          case rel => exact ⟨rfl, ⟨by go_simp, by go_simp, by go_simp, by go_simp, by go_simp, by go_simp, by go_simp, by go_simp, by go_simp, by intro j; simp [f]⟩, (by repeat (first | exact HB.out | apply Below.drew | apply below_put))⟩
        case rest =>
          clear c0 c1 c2 c3 c4 c5 c6 c7 c8 f HB
          obtain ⟨rfl, hPr, hB⟩ := hcut
          have HPr : Hid (Pr wc D m (nxt nx m) false false (.slice (some ad) 0 0) 0 ac cu rr) := hPr
          obtain ⟨c0, c1, c2, c3, c4, c5, c6, c7, c8, f⟩ := hPr
          have HB : Hid (Below D w wc) := hB
          clear hB
          go_wp2_with fail
          refine wp_loop_rounds 1 ?_
          rw [rounds_succ]
          go_wp2_with fail
          go_ret
          exact ⟨rfl, ⟨_, pr_set HPr.out, _, _, rfl, fun h => by omega⟩, below_put HB.out⟩
    · have hfold : (if nx < IntKind.u64.wrap (m + 1) then IntKind.u64.wrap (m + 1) else nx) = nxt nx m := rfl
      go_enter Try.func21, Try.ntmps21
      go_upto_region 3 with fail
      go_cut [] (fun wx => Pr wx D m (nxt nx m) pb wt (.slice (some ad) 0 0) sn ac cu rr ∧ Below D w wx)
      case first =>
        go_region
        all_goals go_wp2_with fail
        all_goals go_meet
        case rel => exact ⟨⟨by go_simp, by go_simp, by go_simp, by go_simp, by go_simp, by go_simp, by go_simp, by go_simp, by go_simp, by intro j; simp [f]⟩, (((Below.refl D w).setCell (p := ⟨D, 0, none⟩) (Nat.le_refl D) _).setCell (p := ⟨D, 1, none⟩) (Nat.le_refl D) _).drew⟩
      case rest =>
        clear c0 c1 c2 c3 c4 c5 c6 c7 c8 f hfold
        obtain ⟨⟨c0, c1, c2, c3, c4, c5, c6, c7, c8, f⟩, hB⟩ := hcut
        have HB : Hid (Below D w wc) := hB
        clear hB
        go_upto_region 7 with fail
        go_cut [6] (fun x wx => x = .int .i64 0 ∧ Pr wx D m (nxt nx m) false false (.slice (some ad) 0 0) sn ac cu rr ∧ Below D w wx)
        case first =>
          go_wp2_with fail
          go_meet
          case rel => exact ⟨rfl, ⟨by go_simp, by go_simp, by go_simp, by go_simp, by go_simp, by go_simp, by go_simp, by go_simp, by go_simp, by intro j; simp [f]⟩, (by repeat (first | exact HB.out | apply Below.drew | apply below_put))⟩
        case rest =>
          clear c0 c1 c2 c3 c4 c5 c6 c7 c8 f HB
          obtain ⟨rfl, hPr, hB⟩ := hcut
          have HPr : Hid (Pr wc D m (nxt nx m) false false (.slice (some ad) 0 0) sn ac cu rr) := hPr
          obtain ⟨c0, c1, c2, c3, c4, c5, c6, c7, c8, f⟩ := hPr
          have HB : Hid (Below D w wc) := hB
          clear hB
          go_wp2_with fail
          refine wp_loop_rounds 1 ?_
          rw [rounds_succ]
          go_wp2_with fail
          go_ret
          exact ⟨rfl, ⟨_, pr_set HPr.out, _, _, rfl, fun h => by omega⟩, below_put HB.out⟩

/-- accept, wherever the inflight numbers lie. -/
theorem accept_any (D n T K : Nat) (ao : Option Addr) (m nx sn rr i mx sn' : Int) (pb wt ac cu : Bool) (t : Nat → Int) (w : World) (hn : n ≤ 131072) (ha : 0 < n → ao = some ⟨T, 0, none⟩) (hT : 0 < n → T < D)
    (hP : Pr w D m nx pb wt (.slice ao n n) sn ac cu rr) (hc : ∀ k, k < n → w.cell? ⟨T, k, none⟩ = some (.int .u64 (t k))) (hK : lead t n i n 0 = K)
    (mv : Bool) (hmx : (m < i ∧ i = mx ∧ true = mv) ∨ (i ≤ m ∧ m = mx ∧ false = mv)) (hsn : (sn ≤ i ∧ 0 = sn') ∨ (i < sn ∧ sn = sn')) :
    Calls Try.prog 21 #[.pointer (some ⟨D, 0, none⟩), .int .u64 i] w fun e w' => e = .returned (.bool mv) ∧ (∃ v, Pr w' D mx (nxt nx mx) false false v sn' ac cu rr ∧ Rest T n K v) ∧ Below D w w' := by
  rcases Nat.eq_zero_or_pos n with h | h
  · subst h
    obtain rfl : 0 = K := hK
    cases ao with
    | none => exact accept_none D T m nx sn rr i mx sn' pb wt ac cu w hP mv hmx hsn
    | some ad => exact accept_some D T ad m nx sn rr i mx sn' pb wt ac cu w hP mv hmx hsn
  · obtain rfl := ha h
    exact accept_pos D n T K m nx sn rr i mx sn' pb wt ac cu t w hn h (hT h) hP hc hK mv hmx hsn
end Go.Proofs.Qxb6600458a.Acc
