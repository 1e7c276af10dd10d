/-
  THE WALK of 'FnAcceptMatchesCaseTable' (5).
-/
import Derived.Test.Qxb6600458aClone
import Derived.Test.Qxb6600458aZZAccept
import Derived.Test.Qxb6600458aPlain
namespace Go.Proofs.Qxb6600458a.Acc
open Go.RowKit
open Cl

/-- It returned a bool. -/
def BoolEnd (e : Ending) : Prop := ∃ b : Bool, e = .returned (.bool b)
theorem zz_any (m nx sn rr i : Int) (pb wt ac cu : Bool) (a4 : Option Addr) (n c : Nat) (w : World) :
    Calls Try.prog 15 #[.int .u64 m, .int .u64 nx, .bool pb, .bool wt, .slice a4 n c, .int .u64 sn, .bool ac, .bool cu, .int .u64 rr, .int .u64 i] w fun e w' => BoolEnd e ∧ w' = w := by
  go_enter Try.func15, Try.ntmps15
  go_wp2
  all_goals go_ret
  all_goals exact ⟨⟨_, rfl⟩, rfl⟩

set_option maxRecDepth 100000 in
theorem out_big (m nx sn rr i : Int) (pb wt ac cu : Bool) (a4 : Option Addr) (n c : Nat) (w : World) (h : 131072 < n) :
    Calls Try.prog 5 #[.int .u64 m, .int .u64 nx, .bool pb, .bool wt, .slice a4 n c, .int .u64 sn, .bool ac, .bool cu, .int .u64 rr, .int .u64 i] w fun e w' => e = .returned (.bool true) ∧ Below w.heap.size w w' := by
  go_enter Try.func5, Try.ntmps5
  go_wp2_with fail
  refine (zz_any m nx sn rr i pb wt ac cu a4 n c _).mono ?_
  rintro e w' ⟨⟨b, rfl⟩, hw⟩
  subst w'
  cases b with
  | true =>
    go_wp2_with fail
    go_ret
    exact ⟨rfl, Below.refl _ _⟩
  | false =>
    go_wp2_with fail
    go_ret
    exact ⟨rfl, Below.refl _ _⟩

set_option maxRecDepth 100000 in
set_option maxHeartbeats 8000000 in
theorem main (m nx sn rr i mx sn' : Int) (pb wt ac cu mv : Bool) (a4 : Option Addr) (n c K : Nat) (t : Nat → Int) (w : World) (hn : n ≤ 131072) (A4 : Arg w a4 n c t) (hK : Hid (lead t n i n 0 = K))
    (hmx : Hid ((m < i ∧ i = mx ∧ true = mv) ∨ (i ≤ m ∧ m = mx ∧ false = mv))) (hsn : Hid ((sn ≤ i ∧ 0 = sn') ∨ (i < sn ∧ sn = sn'))) (hwm : Hid (Word mx)) (hwn : Hid (Word nx)) :
    Calls Try.prog 5 #[.int .u64 m, .int .u64 nx, .bool pb, .bool wt, .slice a4 n c, .int .u64 sn, .bool ac, .bool cu, .int .u64 rr, .int .u64 i] w fun e w' => e = .returned (.bool true) ∧ Below w.heap.size w w' := by
  have HA4 : Hid (Arg w a4 n c t) := A4
  go_enter Try.func5, Try.ntmps5
  go_wp2_with fail
  refine (zz_any m nx sn rr i pb wt ac cu a4 n c _).mono ?_
  rintro e w' ⟨⟨b, rfl⟩, hw⟩
  subst w'
  clear A4
  cases b with
  | false =>
    go_wp2_with fail
    go_ret
    exact ⟨rfl, Below.refl _ _⟩
  | true =>
    have g0 : ¬ (131072 : Int) < n := by omega
    go_upto_block 0 with fail
    go_cut [21] (fun _ wx => Hid (∀ j, j + 1 < n → t j ≤ t (j + 1)) ∧ Hid (Below w.heap.size w wx))
    case first =>
      go_wp2_with fail
      go_loopg [21] n (fun g x wx => ∃ k : Nat, 1 ≤ k ∧ (k ≤ n ∨ k = 1) ∧ g = n + 1 - k ∧ x = .int .i64 k ∧ Hid (∀ j, j + 1 < k → t j ≤ t (j + 1)) ∧ Hid (Below w.heap.size w wx))
      case atStart => exact ⟨1, Nat.le_refl _, .inr rfl, rfl, rfl, fun j hj => by omega, Below.refl _ _⟩
      case round =>
        obtain ⟨k, hk1, hk2, rfl, rfl, HS, HB⟩ := hrel
        by_cases hlt : k < n
        · rcases HA4.out with ⟨_, h0, _⟩ | ⟨b, off, sp, rfl, h2, h3, h4⟩
          · omega
          · obtain rfl := h2 (by omega)
            have hcell : wr.cell? ⟨b, off + k, none⟩ = some (.int .u64 (t k)) := (HB.out.cell (p := ⟨b, off + k, none⟩) (h3 (by omega))).trans (h4 k hlt)
            have hcell2 : wr.cell? ⟨b, off + (k - 1), none⟩ = some (.int .u64 (t (k - 1))) := (HB.out.cell (p := ⟨b, off + (k - 1), none⟩) (h3 (by omega))).trans (h4 (k - 1) (by omega))
            have i0 : (0 : Int) ≤ (k : Int) - 1 := by omega
            have i1 : (k : Int) - 1 < n := by omega
            have i2 : (k : Int) < n := by omega
            have H1 : Hid (1 ≤ k) := hk1
            clear h2 h3 h4 HA4 hk2
            by_cases hle : t k < t (k - 1)
            · go_wp2_with fail
              go_region
              all_goals go_wp2_with fail
              go_ret
              exact ⟨rfl, HB.out.drew⟩
            · have HS2 : Hid (∀ j, j + 1 < k + 1 → t j ≤ t (j + 1)) := fun j hj => by
                by_cases e : j + 1 < k
                · exact HS.out j e
                · obtain rfl : k = j + 1 := by omega
                  rw [Nat.add_sub_cancel] at hle; omega
              go_wp2_with fail
              go_region
              all_goals go_wp2_with fail
              go_roundg (n + 1 - (k + 1))
              case rel => exact ⟨k + 1, by omega, .inl (by omega), rfl, by go_num, HS2, HB.out.drew⟩
              case measure => omega
        · go_wp2_with fail
          go_meet
          case rel => exact ⟨fun j hj => HS.out j (by omega), HB⟩
    case rest =>
      obtain ⟨HS, HB⟩ := hcut
      go_wp2_with fail
      refine (clone_arg a4 n c t wc hn (HA4.out.kept HB.out)).mono ?_
      rintro e w2 ⟨ao, rfl, O0, B2⟩
      obtain ⟨T, hT0⟩ : ∃ T, wc.heap.size = T := ⟨_, rfl⟩
      have HAO : Hid (0 < n → ao = some ⟨T, 0, none⟩) := fun hp => by rw [← hT0]; exact (O0 hp).1
      have HT : Hid (0 < n → T < w2.heap.size) := fun hp => by rw [← hT0]; exact (O0 hp).2.lt
      have HC2 : Hid (∀ k, k < n → w2.cell? ⟨T, k, none⟩ = some (.int .u64 (t k))) := fun k hk => by rw [← hT0]; exact (O0 (by omega)).2.cell hk (Nat.le_refl _)
      clear hT0
      have HB2 : Hid (Below w.heap.size w w2) := HB.out.trans (B2.mono HB.out.size)
      clear O0 B2 HB HA4
      go_upto_region 12 with fail
      go_cut [23, 24] (fun x y wx => ∃ (Q : Nat) (a' : Option Addr) (c' : Nat), x = .pointer (some ⟨Q, 0, none⟩) ∧ y = .bool mv ∧ (wx.cell? ⟨Q, 0, none⟩ = some (.int .u64 mx) ∧ wx.cell? ⟨Q, 1, none⟩ = some (.int .u64 (nxt nx mx)) ∧ wx.cell? ⟨Q, 2, none⟩ = some (.bool false) ∧ wx.cell? ⟨Q, 3, none⟩ = some (.bool false) ∧ wx.cell? ⟨Q, 4, none⟩ = some (.slice a' (n - K) c') ∧ wx.cell? ⟨Q, 5, none⟩ = some (.int .u64 sn') ∧ wx.cell? ⟨Q, 6, none⟩ = some (.bool ac) ∧ wx.cell? ⟨Q, 7, none⟩ = some (.bool cu) ∧ wx.cell? ⟨Q, 8, none⟩ = some (.int .u64 rr)) ∧ Hid (K < n → a' = some ⟨T, K, none⟩) ∧ Hid (∀ k, k < n → wx.cell? ⟨T, k, none⟩ = some (.int .u64 (t k))) ∧ Hid (Below w.heap.size w wx))
      case first =>
        go_wp2_with fail
        have hbo : ∀ o, Below w2.heap.size w2 (w2.alloc o) := fun o => (Below.refl _ w2).alloc (Nat.le_refl _) o
        refine (zzaccept_any n T K ao m nx sn rr i mx sn' pb wt ac cu t _ hn HAO.out (by exact fun h => Nat.lt_of_lt_of_le (HT.out h) (hbo _).size) (by exact fun k hk => ((hbo _).cell (p := ⟨T, k, none⟩) (HT.out (by omega))).trans (HC2.out k hk)) hK.out mv hmx.out hsn.out).mono ?_
        rintro e w3 ⟨a', c', rfl, ha', hB3⟩
        have hB4 : Below w2.heap.size w2 w3 := (hbo _).trans (hB3.mono (hbo _).size)
        have HC3 : Hid (∀ k, k < n → w3.cell? ⟨T, k, none⟩ = some (.int .u64 (t k))) := fun k hk => (hB4.cell (p := ⟨T, k, none⟩) (HT.out (by omega))).trans (HC2.out k hk)
        have HB3 : Hid (Below w.heap.size w w3) := HB2.out.trans (hB4.mono HB2.out.size)
        have HA' : Hid (K < n → a' = some ⟨T, K, none⟩) := ha'
        have HL : Hid (0 < n → T < w3.heap.size) := fun h => Nat.lt_of_lt_of_le (HT.out h) hB4.size
        clear hB3 hB4 ha' hbo
        go_wp2_with fail
        go_meet
        case rel => exact ⟨w3.heap.size, a', c', rfl, rfl, ⟨by go_simp, by go_simp, by go_simp, by go_simp, by go_simp, by go_simp, by go_simp, by go_simp, by go_simp⟩, HA', fun k hk => (((Below.refl _ w3).alloc (Nat.le_refl _) _).cell (p := ⟨T, k, none⟩) (HL.out (by omega))).trans (HC3.out k hk), HB3.out.alloc HB3.out.size _⟩
      case rest =>
        clear HC2 HB2 HT
        obtain ⟨Q, a', c', rfl, rfl, ⟨c0, c1, c2, c3, c4, c5, c6, c7, c8⟩, HA', HC, HB⟩ := hcut
        obtain ⟨hKn, hlo, hhi⟩ := lead_split HS.out hK.out
        have HLO : Hid (∀ j, j < K → t j ≤ i) := hlo
        have HHI : Hid (∀ j, K ≤ j → j < n → i < t j) := hhi
        clear hlo hhi HS hK
        -- moved and match
        go_upto_if 79 with fail
        go_cut [] (fun wx => wc = wx)
        case first =>
          rcases hmx.out with ⟨h, rfl, rfl⟩ | ⟨h, rfl, rfl⟩
          · have f1 : (i != i) = false := by simp
            go_wp2_with fail
            go_meet
            case rel => rfl
          · have f1 : (m != m) = false := by simp
            go_wp2_with fail
            go_meet
            case rel => rfl
        case rest =>
        subst hcut
        -- next
        go_upto_if 97 with fail
        go_cut [] (fun wx => wc = wx)
        case first =>
          by_cases eM : mx = 18446744073709551615
          · have e1 : (mx == 18446744073709551615) = true := by rw [eM]; rfl
            have f2 : (nxt nx mx != nx) = false := by rw [nxt_max hwn.out eM]; simp
            clear eM
            go_wp2_with fail
            go_meet
            case rel => rfl
          · have e1 : (mx == 18446744073709551615) = false := by rw [beq_eq_false_iff_ne]; exact eM
            by_cases hgt : mx < nx
            · have f2 : (nxt nx mx != nx) = false := by rw [nxt_gt hwm.out eM hgt]; simp
              clear eM
              go_wp2_with fail
              go_meet
              case rel => rfl
            · have f2 : (nxt nx mx != IntKind.u64.wrap (mx + 1)) = false := by rw [nxt_le hwm.out eM (by omega)]; simp
              clear eM
              go_wp2_with fail
              go_meet
              case rel => rfl
        case rest =>
        subst hcut
        -- the other fields
        go_upto_if 140 with fail
        go_cut [] (fun wx => wc = wx)
        case first =>
          rcases hsn.out with ⟨h, rfl⟩ | ⟨h, rfl⟩
          · go_wp2_with fail
            go_meet
            case rel => rfl
          · have f1 : (sn != sn) = false := by simp
            go_wp2_with fail
            go_meet
            case rel => rfl
        case rest =>
        subst hcut
        go_wp2_with fail
        go_loopg [25, 150] n (fun g x y wx => wc = wx ∧ ∃ j d : Nat, j ≤ n ∧ g = n - j ∧ Hid (d = j - K) ∧ d ≤ j ∧ x = .int .i64 d ∧ y = .int .i64 j)
        case atStart => exact ⟨rfl, 0, 0, Nat.zero_le _, rfl, (Nat.zero_sub K).symm, Nat.le_refl _, rfl, rfl⟩
        case round =>
          obtain ⟨rfl, j, d, hj, rfl, HD, hdj, rfl, rfl⟩ := hrel
          by_cases hlt : j < n
          · obtain rfl := HAO.out (by omega)
            have hcell := HC.out j hlt
            by_cases hjK : j < K
            · have hle := HLO.out j hjK
              have HD2 : Hid (d = j + 1 - K) := by have := HD.out; show d = j + 1 - K; omega
              go_wp2_with fail
              go_roundg (n - (j + 1))
              case rel => exact ⟨rfl, j + 1, d, by omega, rfl, HD2, by omega, rfl, by go_num⟩
              case measure => omega
            · have hgt := HHI.out j (by omega) hlt
              have HD2 : Hid (d + 1 = j + 1 - K) := by have := HD.out; show d + 1 = j + 1 - K; omega
              obtain rfl := HA'.out (by omega)
              have hKd : K + d = j := by have := HD.out; omega
              have hcell2 : wc.cell? ⟨T, K + d, none⟩ = some (.int .u64 (t j)) := by rw [hKd]; exact hcell
              have hdn : ((d : Nat) : Int) < ((n - K : Nat) : Int) := by omega
              have f1 : (t j != t j) = false := by simp
              clear hKd
              go_wp2_with fail
              go_roundg (n - (j + 1))
              case rel => exact ⟨rfl, j + 1, d + 1, by omega, rfl, HD2, by omega, by go_num, by go_num⟩
              case measure => omega
          · obtain rfl : j = n := by omega
            have hd : d = j - K := HD.out
            go_wp2_with fail
            go_ret
            exact ⟨ret_bool (by simp; try omega), HB.out⟩
end Go.Proofs.Qxb6600458a.Acc
