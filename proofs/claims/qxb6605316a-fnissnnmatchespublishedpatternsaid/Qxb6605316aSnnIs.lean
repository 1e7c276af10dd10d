/-
  THE WALK of 'isSNN' (18).
-/
import Derived.Test.Qxb6605316aSnnLit
import Derived.Laws.IdiomStrings
import Derived.Deep.DeepCutAuto
import Derived.Deep.CutBlock
namespace Go.Proofs.Qxb6605316a.Snn
open Go.RowKit

/-- snnForm. -/
abbrev F : ByteArray := ⟨#[53, 71, 58, 109, 110, 99, 35, 35, 35, 46, 109, 99, 99, 35, 35, 35, 46, 51, 103, 112, 112, 110, 101, 116, 119, 111, 114, 107, 46, 111, 114, 103]⟩
/-- The byte k fits the form. -/
def fit (s : ByteArray) (k : Nat) : Bool := decide ((bt F k = 35 ∧ 48 ≤ bt s k ∧ bt s k ≤ 57) ∨ (bt F k ≠ 35 ∧ bt s k = bt F k))
/-- isSNN, behind the first two tests. -/
def isB (s : ByteArray) : Bool := all (fit s) 32 && (decide (s.size = 32) || (decide (bt s 32 = 58) && hexB s 33 11))

theorem F_lt {k : Nat} (h : k < 32) : k < F.size := h
theorem bt_F {k : Nat} (h : k < 32) : bt F k = ((F[k]'(F_lt h)).toNat : Int) := bt_eq (F_lt h)
theorem isB_bad {s : ByteArray} {k : Nat} (h : k < 32) (hf : fit s k = false) : false = isB s := by
  rw [isB, all_false h hf]; rfl
theorem fit_step {s : ByteArray} {k : Nat} (H : all (fit s) k = true) (h : fit s k = true) : all (fit s) (k + 1) = true := by
  rw [all, H, h]; rfl
theorem fit_dig {s : ByteArray} {k : Nat} (h : k < 32) (hs : k < s.size) (h1 : ((F[k]'(F_lt h)).toNat : Int) = 35) (h2 : 48 ≤ (s[k].toNat : Int)) (h3 : (s[k].toNat : Int) ≤ 57) : fit s k = true := by
  rw [fit, bt_F h, bt_eq hs]; exact decide_eq_true (.inl ⟨h1, h2, h3⟩)
theorem fit_nodig {s : ByteArray} {k : Nat} (h : k < 32) (hs : k < s.size) (h1 : ((F[k]'(F_lt h)).toNat : Int) = 35) (h2 : ¬ (48 ≤ (s[k].toNat : Int) ∧ (s[k].toNat : Int) ≤ 57)) : fit s k = false := by
  rw [fit, bt_F h, bt_eq hs]; exact decide_eq_false (by omega)
theorem fit_same {s : ByteArray} {k : Nat} (h : k < 32) (hs : k < s.size) (h1 : ¬ ((F[k]'(F_lt h)).toNat : Int) = 35) (h2 : (((F[k]'(F_lt h)).toNat : Int) != 35) = false ∨ ((s[k].toNat : Int) != ((F[k]'(F_lt h)).toNat : Int)) = false) : fit s k = true := by
  rw [fit, bt_F h, bt_eq hs]
  refine decide_eq_true (.inr ⟨h1, ?_⟩)
  rcases h2 with h2 | h2
  · exact absurd (by simpa using h2) h1
  · simpa using h2
theorem fit_other {s : ByteArray} {k : Nat} (h : k < 32) (hs : k < s.size) (h1 : ¬ ((F[k]'(F_lt h)).toNat : Int) = 35) (h2 : (((F[k]'(F_lt h)).toNat : Int) != 35) = true ∧ ((s[k].toNat : Int) != ((F[k]'(F_lt h)).toNat : Int)) = true) : fit s k = false := by
  rw [fit, bt_F h, bt_eq hs]
  have h3 := h2.2
  rw [bne_iff_ne] at h3
  exact decide_eq_false (by omega)

theorem dig_yes (c : Int) (w : World) (h : 48 ≤ c ∧ c ≤ 57) : Calls Try.prog 29 #[.int .u8 c] w fun e w' => e = .returned (.bool true) ∧ w' = w := by
  obtain ⟨h1, h2⟩ := h
  go_enter Try.func29, Try.ntmps29
  go_wp2
  go_ret
  exact ⟨ret_bool (by simp), rfl⟩
theorem dig_no (c : Int) (w : World) (h : ¬ (48 ≤ c ∧ c ≤ 57)) : Calls Try.prog 29 #[.int .u8 c] w fun e w' => e = .returned (.bool false) ∧ w' = w := by
  by_cases h1 : 48 ≤ c
  · have h2 : 57 < c := by omega
    clear h
    go_enter Try.func29, Try.ntmps29
    go_wp2
    go_ret
    exact ⟨ret_bool (decide_eq_false (by omega)), rfl⟩
  · clear h
    go_enter Try.func29, Try.ntmps29
    go_wp2
    go_ret
    exact ⟨rfl, rfl⟩

theorem is7_any (s : ByteArray) (w : World) (h7 : (s.toList == [53, 71, 58, 78, 83, 87, 79]) = true) :
    Calls Try.prog 18 #[.string s] w fun e w' => e = .returned (.bool true) ∧ Below w.heap.size w w' := by
  go_enter Try.func18, Try.ntmps18
  go_wp2_with fail
  go_ret
  exact ⟨rfl, Below.refl _ _⟩
theorem isnot_any (s : ByteArray) (w : World) (h7 : (s.toList == [53, 71, 58, 78, 83, 87, 79]) = false) (h32 : ((s.size : Int) != 32) = true) (h44 : ((s.size : Int) != 44) = true) :
    Calls Try.prog 18 #[.string s] w fun e w' => e = .returned (.bool false) ∧ Below w.heap.size w w' := by
  go_enter Try.func18, Try.ntmps18
  go_wp2_with fail
  go_ret
  exact ⟨rfl, Below.refl _ _⟩

set_option maxRecDepth 100000 in
set_option maxHeartbeats 1000000 in
theorem is32_any (s : ByteArray) (w : World) (h7 : (s.toList == [53, 71, 58, 78, 83, 87, 79]) = false) (h : s.size = 32) :
    Calls Try.prog 18 #[.string s] w fun e w' => e = .returned (.bool (isB s)) ∧ Below w.heap.size w w' := by
  have g1 : (s.size : Int) = 32 := by omega
  have g2 : (s.extract 32 s.size).toList.isEmpty = true := by
    rw [ByteArray.toList_eq, List.isEmpty_iff_length_eq_zero, Array.length_toList]
    show (s.extract 32 s.size).size = 0
    rw [ByteArray.size_extract]; omega
  have H : Hid (s.size = 32) := h
  clear h
  go_enter Try.func18, Try.ntmps18
  go_wp2_with fail
  go_loopw [20] (fun x wr => ∃ k : Nat, k ≤ 32 ∧ x = .int .i64 k ∧ Hid (all (fit s) k = true) ∧ Below w.heap.size w wr) (fun x _ => 32 - (intOf x).toNat)
  case atStart => exact ⟨0, Nat.zero_le _, rfl, rfl, Below.refl _ _⟩
  case round =>
    obtain ⟨k, hk, rfl, HA, hB⟩ := hrel
    by_cases hlt : k < 32
    · have i1 : (k : Int) < s.size := by omega
      have i2 : k < s.size := by omega
      clear g2
      go_wp2
      · go_roundw
        case rel => exact ⟨k + 1, by omega, by go_num, fit_step HA.out (fit_dig hlt i2 ‹_› ‹_› ‹_›), hB⟩
        case measure => simp [intOf]; omega
      · go_ret
        exact ⟨ret_bool (isB_bad hlt (fit_nodig hlt i2 ‹_› (by omega))), hB⟩
      · go_ret
        exact ⟨ret_bool (isB_bad hlt (fit_nodig hlt i2 ‹_› (by omega))), hB⟩
      · go_ret
        exact ⟨ret_bool (isB_bad hlt (fit_other hlt i2 ‹_› ‹_›)), hB⟩
      · go_roundw
        case rel => exact ⟨k + 1, by omega, by go_num, fit_step HA.out (fit_same hlt i2 ‹_› ‹_›), hB⟩
        case measure => simp [intOf]; omega
    · obtain rfl : k = 32 := by omega
      go_wp2_with fail
      go_ret
      exact ⟨ret_bool (by rw [isB, HA.out, H.out]; rfl), hB⟩
/-- The byte c is an upper-case hexadecimal digit. -/
def hx (c : Int) : Prop := (48 ≤ c ∧ c ≤ 57) ∨ (65 ≤ c ∧ c ≤ 70)
theorem hexAll_step {s : ByteArray} {k : Nat} {c : Int} (H : all (fun j => decide ((48 ≤ bt s (33 + j) ∧ bt s (33 + j) ≤ 57) ∨ (65 ≤ bt s (33 + j) ∧ bt s (33 + j) ≤ 70))) k = true) (hc : c = bt s (33 + k)) (h : hx c) :
    all (fun j => decide ((48 ≤ bt s (33 + j) ∧ bt s (33 + j) ≤ 57) ∨ (65 ≤ bt s (33 + j) ∧ bt s (33 + j) ≤ 70))) (k + 1) = true := by
  subst hc
  rw [all, H]
  exact decide_eq_true h
theorem isB_hex {s : ByteArray} (h : s.size = 44) (HA : all (fit s) 32 = true) (h58 : bt s 32 = 58) : isB s = hexB s 33 11 := by
  rw [isB, HA, h, h58]; rfl
theorem isB_58 {s : ByteArray} (h : s.size = 44) (h58 : ¬ bt s 32 = 58) : false = isB s := by
  rw [isB, h, decide_eq_false h58]
  simp
theorem hexAll_stop {s : ByteArray} {k : Nat} {c : Int} (hk : k < 11) (hc : c = bt s (33 + k)) (h : ¬ hx c) : hexB s 33 11 = false := by
  subst hc
  exact all_false hk (decide_eq_false h)
theorem ext_at {s : ByteArray} {a b j : Nat} (h : j < (s.extract a b).size) : (((s.extract a b)[j]'h).toNat : Int) = bt s (a + j) := by
  have h2 : a + j < s.size := by rw [ByteArray.size_extract] at h; omega
  rw [bt_eq h2, ByteArray.getElem_extract]
theorem ext0 {s : ByteArray} (h0 : 0 < (s.extract 32 s.size).size) : (((s.extract 32 s.size)[(0 : Nat)]'h0).toNat : Int) = bt s 32 := by
  have h := ext_at (s := s) (a := 32) (b := s.size) (j := 0) h0
  rw [Nat.add_zero] at h
  exact h

theorem ext58_no {s : ByteArray} (h0 : 0 < (s.extract 32 s.size).size) (h : ((((s.extract 32 s.size)[(0 : Nat)]'h0).toNat : Int) != 58) = true) : ¬ bt s 32 = 58 := by
  rw [← ext0 h0]; simpa using h
theorem ext58_yes {s : ByteArray} (h0 : 0 < (s.extract 32 s.size).size) (h : ((((s.extract 32 s.size)[(0 : Nat)]'h0).toNat : Int) != 58) = false) : bt s 32 = 58 := by
  rw [← ext0 h0]; simpa using h

/-- '[]byte(u)': the world behind. -/
def convW (W : World) (u : ByteArray) : World := W.drew.alloc (.cells (bytesRow u (grownCap W u.size 0 5)) 5 ((bytesRow u (grownCap W u.size 0 5)).size, (bytesRow u (grownCap W u.size 0 5)).size + 1))
def convC (W : World) (u : ByteArray) : Nat := grownCap W u.size 0 5
theorem conv_is (W : World) (u : ByteArray) : (convert 9 23 (.string u)).run Try.prog W = .ok (.slice (some ⟨W.heap.size, 0, none⟩) u.size (convC W u)) (convW W u) :=
  run_bytes_of_string W 9 23 5 u Try.underlying9 Try.underlying23 Try.underlying5
theorem conv_below (W : World) (u : ByteArray) : Below W.heap.size W (convW W u) := (Below.refl _ _).drew.alloc (Nat.le_refl _) _
theorem conv_cell (W : World) (u : ByteArray) (j : Nat) (h : j < u.size) : (convW W u).cell? ⟨W.heap.size, j, none⟩ = some (.int .u8 (u[j].toNat : Int)) := by
  have e := World.cell?_alloc_mark W.drew (bytesRow u (grownCap W u.size 0 5)) 5 ((bytesRow u (grownCap W u.size 0 5)).size, (bytesRow u (grownCap W u.size 0 5)).size + 1) j
  refine Eq.trans e ?_
  have h' : j < u.data.size := h
  unfold bytesRow
  rw [Array.getElem?_append_left (by simpa using h')]
  simp
  exact ⟨u.data[j], Array.getElem?_eq_getElem h', rfl⟩

theorem conv_s {s : ByteArray} (h : s.size = 44) (W : World) (k : Nat) (hk : k < 11) :
    (convW W ((s.extract 32 s.size).extract 1 (s.size - 32))).cell? ⟨W.heap.size, k, none⟩ = some (.int .u8 (bt s (33 + k))) := by
  have hl : k < ((s.extract 32 s.size).extract 1 (s.size - 32)).size := by
    rw [ByteArray.size_extract, ByteArray.size_extract]; omega
  rw [conv_cell W _ k hl, ByteArray.getElem_extract, ByteArray.getElem_extract, bt_eq (by omega)]
  simp only [show 32 + (1 + k) = 33 + k from by omega]

set_option maxRecDepth 100000 in
set_option maxHeartbeats 4000000 in
theorem is44_any (s : ByteArray) (w : World) (h7 : (s.toList == [53, 71, 58, 78, 83, 87, 79]) = false) (h : s.size = 44) :
    Calls Try.prog 18 #[.string s] w fun e w' => e = .returned (.bool (isB s)) ∧ Below w.heap.size w w' := by
  have g1 : (s.size : Int) = 44 := by omega
  have g2 : (s.extract 32 s.size).toList.isEmpty = false := by
    rw [Bool.eq_false_iff, ne_eq, ByteArray.toList_eq, List.isEmpty_iff_length_eq_zero, Array.length_toList]
    show ¬ (s.extract 32 s.size).size = 0
    rw [ByteArray.size_extract]; omega
  have H : Hid (s.size = 44) := h
  have hconv := conv_is
  clear h
  go_enter Try.func18, Try.ntmps18
  go_wp2_with fail
  go_loopw [20] (fun x wr => ∃ k : Nat, k ≤ 32 ∧ x = .int .i64 k ∧ Hid (all (fit s) k = true) ∧ Below w.heap.size w wr) (fun x _ => 32 - (intOf x).toNat)
  case atStart => exact ⟨0, Nat.zero_le _, rfl, rfl, Below.refl _ _⟩
  case round =>
    obtain ⟨k, hk, rfl, HA, hB⟩ := hrel
    by_cases hlt : k < 32
    · have i1 : (k : Int) < s.size := by omega
      have i2 : k < s.size := by omega
      clear g2 hconv
      go_wp2
      · go_roundw
        case rel => exact ⟨k + 1, by omega, by go_num, fit_step HA.out (fit_dig hlt i2 ‹_› ‹_› ‹_›), hB⟩
        case measure => simp [intOf]; omega
      · go_ret
        exact ⟨ret_bool (isB_bad hlt (fit_nodig hlt i2 ‹_› (by omega))), hB⟩
      · go_ret
        exact ⟨ret_bool (isB_bad hlt (fit_nodig hlt i2 ‹_› (by omega))), hB⟩
      · go_ret
        exact ⟨ret_bool (isB_bad hlt (fit_other hlt i2 ‹_› ‹_›)), hB⟩
      · go_roundw
        case rel => exact ⟨k + 1, by omega, by go_num, fit_step HA.out (fit_same hlt i2 ‹_› ‹_›), hB⟩
        case measure => simp [intOf]; omega
    · obtain rfl : k = 32 := by omega
      have h0 : 0 < (s.extract 32 s.size).size := by rw [ByteArray.size_extract]; have := H.out; omega
      have H0 : Hid (0 < (s.extract 32 s.size).size) := h0
      clear h0
      go_upto_region 17 with fail
      · go_wp2_with fail
        go_ret
        exact ⟨ret_bool (isB_58 H.out (ext58_no H0.out ‹_›)), hB⟩
      · have HI : Hid (isB s = hexB s 33 11) := isB_hex H.out HA.out (ext58_yes H0.out ‹_›)
        go_cut [51, 57, 58, 59] (fun _ x y z wx => (∃ cp : Nat, x = .slice (some ⟨wr.heap.size, 0, none⟩) 11 cp) ∧ y = .int .i64 11 ∧ z = .int .i64 0 ∧ (∀ k, k < 11 → wx.cell? ⟨wr.heap.size, k, none⟩ = some (.int .u8 (bt s (33 + k)))) ∧ Below w.heap.size w wx)
        case first =>
          have e11 : s.size - 32 - 1 = 11 := by have := H.out; omega
          go_wp2_with fail
          go_meet
          case rel => exact ⟨⟨_, rfl⟩, rfl, rfl, conv_s H.out wr, hB.trans ((conv_below wr _).mono hB.size)⟩
        case rest =>
          obtain ⟨⟨cp, rfl⟩, rfl, rfl, hcs, hBc⟩ := hcut
          clear hconv g2 g1 h7 HA H0 hB
          go_wp2_with fail
          go_loopg [59] 11 (fun g x wx => wc = wx ∧ ∃ k : Nat, k ≤ 11 ∧ g = 11 - k ∧ x = .int .i64 k ∧ Hid (all (fun j => decide ((48 ≤ bt s (33 + j) ∧ bt s (33 + j) ≤ 57) ∨ (65 ≤ bt s (33 + j) ∧ bt s (33 + j) ≤ 70))) k = true))
          case atStart => exact ⟨rfl, 0, Nat.zero_le _, rfl, rfl, rfl⟩
          case round =>
            obtain ⟨rfl, k, hk, rfl, rfl, HX⟩ := hrel
            by_cases hlt : k < 11
            · obtain ⟨cv, hcv⟩ : ∃ cv : Int, cv = bt s (33 + k) := ⟨_, rfl⟩
              have hcell := hcs k hlt
              rw [← hcv] at hcell
              have HC : Hid (cv = bt s (33 + k)) := hcv
              clear hcv hcs
              by_cases hd : 48 ≤ cv ∧ cv ≤ 57
              · have HD : Hid (48 ≤ cv ∧ cv ≤ 57) := hd
                clear hd
                go_wp2_with (go_at_call 29; refine (dig_yes cv _ HD.out).mono ?_; rintro e w' ⟨rfl, hw⟩; subst w')
                go_roundg (11 - (k + 1))
                case rel => exact ⟨rfl, k + 1, by omega, rfl, by go_num, hexAll_step HX.out HC.out (.inl HD.out)⟩
                case measure => omega
              · have HD : Hid (¬ (48 ≤ cv ∧ cv ≤ 57)) := hd
                by_cases hu1 : 65 ≤ cv
                · by_cases hu2 : cv ≤ 70
                  · clear hd
                    go_wp2_with (go_at_call 29; refine (dig_no cv _ HD.out).mono ?_; rintro e w' ⟨rfl, hw⟩; subst w')
                    go_roundg (11 - (k + 1))
                    case rel => exact ⟨rfl, k + 1, by omega, rfl, by go_num, hexAll_step HX.out HC.out (.inr ⟨hu1, hu2⟩)⟩
                    case measure => omega
                  · have HN : Hid (¬ hx cv) := fun q => by unfold hx at q; omega
                    have hz : decide (cv ≤ 70) = false := decide_eq_false hu2
                    clear hd
                    go_wp2_with (go_at_call 29; refine (dig_no cv _ HD.out).mono ?_; rintro e w' ⟨rfl, hw⟩; subst w')
                    go_ret
                    exact ⟨ret_bool (by rw [HI.out, hexAll_stop hlt HC.out HN.out]), hBc⟩
                · have HN : Hid (¬ hx cv) := fun q => by unfold hx at q; omega
                  clear hd
                  go_wp2_with (go_at_call 29; refine (dig_no cv _ HD.out).mono ?_; rintro e w' ⟨rfl, hw⟩; subst w')
                  go_ret
                  exact ⟨ret_bool (by rw [HI.out, hexAll_stop hlt HC.out HN.out]), hBc⟩
            · obtain rfl : k = 11 := by omega
              go_wp2_with fail
              go_ret
              exact ⟨ret_bool (by rw [HI.out, hexB, HX.out]), hBc⟩
end Go.Proofs.Qxb6605316a.Snn
