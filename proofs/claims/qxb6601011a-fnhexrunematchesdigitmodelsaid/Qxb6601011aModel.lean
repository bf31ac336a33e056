/-
  Seat b6601011a: 'hexDigitValue' (22), 'hexModel' (12), and the walk of 'FnHexRuneMatchesDigitModel' (function 3).
-/
import Derived.Test.Qxb6601011aHex
namespace Go.Proofs.Qxb6601011a
open Go.RowKit
set_option linter.unusedVariables false

/-- The k-th letter of the two tables. -/
def lo (k : Nat) : Int := if k < 10 then 48 + k else 87 + k
def up (k : Nat) : Int := if k < 10 then 48 + k else 55 + k
theorem lt16 {k : Nat} (h : k < 16) : k = 0 ∨ k = 1 ∨ k = 2 ∨ k = 3 ∨ k = 4 ∨ k = 5 ∨ k = 6 ∨ k = 7 ∨ k = 8 ∨ k = 9 ∨ k = 10 ∨ k = 11 ∨ k = 12 ∨ k = 13 ∨ k = 14 ∨ k = 15 := by omega
theorem idx_lo (k : Nat) (h : k < 16) (w : World) : (Instr.index 9 (.string ⟨#[48, 49, 50, 51, 52, 53, 54, 55, 56, 57, 97, 98, 99, 100, 101, 102]⟩) (.int .i64 (k : Int))).run Try.prog w = .ok (.int .u8 (lo k)) w := by
  rcases lt16 h with rfl | rfl | rfl | rfl | rfl | rfl | rfl | rfl | rfl | rfl | rfl | rfl | rfl | rfl | rfl | rfl <;> kernel_rfl
theorem idx_up (k : Nat) (h : k < 16) (w : World) : (Instr.index 9 (.string ⟨#[48, 49, 50, 51, 52, 53, 54, 55, 56, 57, 65, 66, 67, 68, 69, 70]⟩) (.int .i64 (k : Int))).run Try.prog w = .ok (.int .u8 (up k)) w := by
  rcases lt16 h with rfl | rfl | rfl | rfl | rfl | rfl | rfl | rfl | rfl | rfl | rfl | rfl | rfl | rfl | rfl | rfl <;> kernel_rfl

theorem lo_hit {k : Nat} (h : k < 16) : isHex (lo k) ∧ dig (lo k) = k := by
  unfold lo isHex dig
  by_cases h10 : k < 10
  · rw [if_pos h10]; exact ⟨by omega, by rw [if_pos (by omega)]; omega⟩
  · rw [if_neg h10]; exact ⟨by omega, by rw [if_neg (by omega), if_neg (by omega)]; omega⟩
theorem up_hit {k : Nat} (h : k < 16) : isHex (up k) ∧ dig (up k) = k := by
  unfold up isHex dig
  by_cases h10 : k < 10
  · rw [if_pos h10]; exact ⟨by omega, by rw [if_pos (by omega)]; omega⟩
  · rw [if_neg h10]; exact ⟨by omega, by rw [if_neg (by omega), if_pos (by omega)]; omega⟩
theorem miss {k : Nat} {c : Int} (h : k < 16) (hA : lo k ≠ c) (hB : up k ≠ c) (hg : isHex c → (k : Int) ≤ dig c) : isHex c → ((k + 1 : Nat) : Int) ≤ dig c := by
  intro hx
  have := hg hx
  unfold lo at hA
  unfold up at hB
  unfold isHex at hx
  unfold dig at this ⊢
  by_cases h10 : k < 10
  · rw [if_pos h10] at hA hB
    split at this <;> split <;> omega
  · rw [if_neg h10] at hA hB
    split at this <;> split <;> omega

theorem ret2 {a b : Int} {x : Bool} (h : a = b) : Ending.returned (.tuple #[.int .i32 a, .bool x]) = .returned (.tuple #[.int .i32 b, .bool x]) := by rw [h]

set_option maxHeartbeats 4000000 in
theorem digit_any (c : Int) (w : World) :
    Calls Try.prog 22 #[.int .u8 c] w fun e w' => ((isHex c ∧ e = .returned (.tuple #[.int .i32 (dig c), .bool true])) ∨ (¬ isHex c ∧ e = .returned (.tuple #[.int .i32 0, .bool false]))) ∧ w' = w := by
  go_enter Try.func22, Try.ntmps22
  go_wp2
  go_loop [4] (fun i => ∃ k : Nat, k ≤ 16 ∧ i = .int .i64 k ∧ Hid (isHex c → (k : Int) ≤ dig c)) (fun i => 16 - (intOf i).toNat)
  case atStart => exact ⟨0, Nat.zero_le _, rfl, fun h => (dig_bd h).1⟩
  case round =>
    obtain ⟨k, hk, rfl, HG⟩ := hrel
    by_cases hlt : k < 16
    · have hkz : (k : Int) < 16 := by omega
      have q1 := idx_lo k hlt
      have q2 := idx_up k hlt
      by_cases hA : lo k = c
      · have e1 : (lo k == c) = true := by simp [hA]
        have HA : Hid (lo k = c) := hA
        clear hA
        go_wp2
        go_ret2
        have := lo_hit hlt
        rw [HA.out] at this
        exact ⟨.inl ⟨this.1, ret2 this.2.symm⟩, rfl⟩
      · have e1 : (lo k == c) = false := by simp [hA]
        have HA : Hid (lo k ≠ c) := hA
        clear hA
        by_cases hB : up k = c
        · have e2 : (up k == c) = true := by simp [hB]
          have HB : Hid (up k = c) := hB
          clear hB
          go_wp2
          go_ret2
          have := up_hit hlt
          rw [HB.out] at this
          exact ⟨.inl ⟨this.1, ret2 this.2.symm⟩, rfl⟩
        · have e2 : (up k == c) = false := by simp [hB]
          have HB : Hid (up k ≠ c) := hB
          clear hB
          go_wp2
          go_round
          case rel => exact ⟨k + 1, by omega, by go_num, miss hlt HA.out HB.out HG.out⟩
          case measure => simp [intOf]; omega
    · obtain rfl : k = 16 := by omega
      go_wp2
      go_ret2
      refine ⟨.inr ⟨fun h => ?_, rfl⟩, rfl⟩
      have := HG.out h
      have := dig_bd h
      omega

/-- The weight of the k-th digit. -/
def wt : Nat → Int
  | 0 => 4096
  | 1 => 256
  | 2 => 16
  | 3 => 1
  | _ => 0
/-- What the model has added up after k digits. -/
def vl (l : List Int) (k : Nat) : Int := acc l k * 16 ^ (4 - k)

theorem vl_step (l : List Int) (k : Nat) (hk : k < 4) {c : Int} (hc : c = l.getD k 0) : vl l k + dig c * wt k = vl l (k + 1) := by
  subst hc
  unfold vl
  simp only [acc]
  rcases (show k = 0 ∨ k = 1 ∨ k = 2 ∨ k = 3 by omega) with rfl | rfl | rfl | rfl <;> simp [wt] <;> omega
theorem vl_bd (l : List Int) (k : Nat) (hk : k ≤ 4) (h : ∀ j, j < k → isHex (l.getD j 0)) : 0 ≤ vl l k ∧ vl l k < 65536 := by
  have := acc_pow k h
  unfold vl
  rcases (show k = 0 ∨ k = 1 ∨ k = 2 ∨ k = 3 ∨ k = 4 by omega) with rfl | rfl | rfl | rfl | rfl <;> simp at this ⊢ <;> omega
theorem vl_rel {l : List Int} {k : Nat} (hk : k < 4) {c V D : Int} (hc : c = l.getD k 0) (hV : V = vl l k) (hD : D = dig c) (W : Int) (hW : W = wt k) : Value.int IntKind.i32 (V + D * W) = .int .i32 (vl l (k + 1)) := by
  rw [hV, hD, hW, vl_step l k hk hc]

set_option maxHeartbeats 1000000 in
theorem model_long (b off n cap : Nat) (l : List Int) (w : World) (hl : l.length = n) (hn : 4 ≤ n) (hn2 : n ≤ 2000000) (hc : ∀ i, i < l.length → w.cell? ⟨b, off + i, none⟩ = some (.int .u8 (l.getD i 0))) :
    Calls Try.prog 12 #[.slice (some ⟨b, off, none⟩) n cap] w fun e w' => ((Good l ∧ e = .returned (.tuple #[.int .i32 (acc l 4), .bool true])) ∨ (¬ Good l ∧ e = .returned (.tuple #[.int .i32 0, .bool false]))) ∧ w' = w := by
  have hnz : ¬ (n : Int) < 4 := by omega
  have HC : Hid (∀ i, i < l.length → w.cell? ⟨b, off + i, none⟩ = some (.int .u8 (l.getD i 0))) := hc
  have HL : Hid (l.length = n) := hl
  clear hc hl
  go_enter Try.func12, Try.ntmps12
  go_wp2
  go_loop [4, 5, 6] (fun v t i => ∃ k : Nat, k ≤ 4 ∧ i = .int .i64 k ∧ v = .int .i32 (vl l k) ∧ t = .int .i32 (wt k) ∧ Hid (∀ j, j < k → isHex (l.getD j 0))) (fun _ _ i => 4 - (intOf i).toNat)
  case atStart => exact ⟨0, Nat.zero_le _, rfl, rfl, rfl, fun j hj => absurd hj (Nat.not_lt_zero _)⟩
  case round =>
    obtain ⟨k, hk, rfl, rfl, rfl, HG⟩ := hrel
    by_cases hlt : k < 4
    · have hcell := HC.out k (by rw [HL.out]; omega)
      obtain ⟨c, hcc⟩ : ∃ c, c = l.getD k 0 := ⟨_, rfl⟩
      obtain ⟨V, hV⟩ : ∃ V, V = vl l k := ⟨_, rfl⟩
      obtain ⟨W, hW⟩ : ∃ W, W = wt k := ⟨_, rfl⟩
      rw [← hcc] at hcell
      obtain ⟨hb1, hb2⟩ := vl_bd l k hk HG.out
      rw [← hV] at hb1 hb2 ⊢
      rw [← hW]
      have H1 : Hid (c = l.getD k 0) := hcc
      have H2 : Hid (V = vl l k) := hV
      have H3 : Hid (W = wt k) := hW
      clear hcc hV hW
      have hkz : (k : Int) < 4 := by omega
      go_wp2_with fail
      refine (digit_any c _).mono ?_
      rintro e w ⟨h | h, rfl⟩
      · obtain ⟨hx, rfl⟩ := h
        obtain ⟨D, hD⟩ : ∃ D, D = dig c := ⟨_, rfl⟩
        rw [← hD]
        obtain ⟨hd1, hd2⟩ := dig_bd hx
        rw [← hD] at hd1 hd2
        have HD : Hid (D = dig c) := hD
        have HX : Hid (isHex c) := hx
        clear hx hD
        rcases (show k = 0 ∨ k = 1 ∨ k = 2 ∨ k = 3 by omega) with rfl | rfl | rfl | rfl
        · obtain rfl : W = 4096 := H3.out
          go_wp2
          go_round
          case rel => exact ⟨1, by omega, by go_num, vl_rel (by omega) H1.out H2.out HD.out _ rfl, rfl, upto_step HG.out H1.out HX.out⟩
          case measure => simp [intOf]
        · obtain rfl : W = 256 := H3.out
          go_wp2
          go_round
          case rel => exact ⟨2, by omega, by go_num, vl_rel (by omega) H1.out H2.out HD.out _ rfl, rfl, upto_step HG.out H1.out HX.out⟩
          case measure => simp [intOf]
        · obtain rfl : W = 16 := H3.out
          go_wp2
          go_round
          case rel => exact ⟨3, by omega, by go_num, vl_rel (by omega) H1.out H2.out HD.out _ rfl, rfl, upto_step HG.out H1.out HX.out⟩
          case measure => simp [intOf]
        · obtain rfl : W = 1 := H3.out
          go_wp2
          go_round
          case rel => exact ⟨4, by omega, by go_num, by have := vl_rel (by omega) H1.out H2.out HD.out 1 rfl; simpa using this, rfl, upto_step HG.out H1.out HX.out⟩
          case measure => simp [intOf]
      · obtain ⟨hx, rfl⟩ := h
        have HN : Hid (¬ Good l) := fun hg => hx (H1.out ▸ hg.2 k hlt)
        clear hx
        go_wp2
        go_ret2
        exact ⟨.inr ⟨HN.out, rfl⟩, rfl⟩
    · obtain rfl : k = 4 := by omega
      go_wp2
      go_ret2
      exact ⟨.inl ⟨⟨by rw [HL.out]; omega, HG.out⟩, ret2 (by simp [vl])⟩, rfl⟩

theorem model_short (a : Option Addr) (n cap : Nat) (w : World) (hn : n < 4) :
    Calls Try.prog 12 #[.slice a n cap] w fun e w' => e = .returned (.tuple #[.int .i32 0, .bool false]) ∧ w' = w := by
  have hnz : (n : Int) < 4 := by omega
  go_enter Try.func12, Try.ntmps12
  go_wp2
  go_ret2
  exact ⟨rfl, rfl⟩

theorem model_any (a : Option Addr) (n cap : Nat) (l : List Int) (w : World) (hl : l.length = n) (hn : n ≤ 2000000) (h : Has .u8 w a l) :
    Calls Try.prog 12 #[.slice a n cap] w fun e w' => ((Good l ∧ e = .returned (.tuple #[.int .i32 (acc l 4), .bool true])) ∨ (¬ Good l ∧ e = .returned (.tuple #[.int .i32 0, .bool false]))) ∧ w' = w := by
  by_cases h4 : n < 4
  · refine (model_short a n cap w h4).mono ?_
    rintro e w' ⟨rfl, rfl⟩
    exact ⟨.inr ⟨fun hg => by have := hg.1; omega, rfl⟩, rfl⟩
  · rcases h with h | ⟨b, off, rfl, hc⟩
    · rw [h] at hl; simp at hl; omega
    · exact model_long b off n cap l w hl (by omega) hn hc

theorem zz9_yes (a : Option Addr) (n cap : Nat) (w : World) (hn : n ≤ 1048576) :
    Calls Try.prog 9 #[.slice a n cap] w fun e w' => e = .returned (.bool true) ∧ w' = w := by
  go_enter Try.func9, Try.ntmps9
  go_wp2
  go_ret
  exact ⟨rfl, rfl⟩
theorem zz9_no (a : Option Addr) (n cap : Nat) (w : World) (hn : 1048576 < n) :
    Calls Try.prog 9 #[.slice a n cap] w fun e w' => e = .returned (.bool false) ∧ w' = w := by
  go_enter Try.func9, Try.ntmps9
  go_wp2
  go_ret
  exact ⟨rfl, rfl⟩

theorem law3_big (a : Option Addr) (n cap : Nat) (w : World) (hn : 1048576 < n) :
    Calls Try.prog 3 #[.slice a n cap] w fun e w' => e = .returned (.bool true) ∧ Below w.heap.size w w' := by
  go_enter Try.func3, Try.ntmps3
  go_wp2_with fail
  refine (zz9_no a n cap w hn).mono ?_
  rintro e w' ⟨rfl, rfl⟩
  go_wp2
  go_ret
  exact ⟨rfl, Below.refl _ _⟩

set_option maxHeartbeats 1000000 in
theorem law3 (a : Option Addr) (n cap : Nat) (l : List Int) (w : World) (hl : l.length = n) (hnil : a = none → n = 0 ∧ cap = 0) (h : Has .u8 w a l) :
    Calls Try.prog 3 #[.slice a n cap] w fun e w' => e = .returned (.bool true) ∧ Below w.heap.size w w' := by
  by_cases hn : 1048576 < n
  · exact law3_big a n cap w hn
  have HL : Hid (l.length = n) := hl
  have HN : Hid (a = none → n = 0 ∧ cap = 0) := hnil
  have HH : Hid (Has .u8 w a l) := h
  clear hl hnil h
  go_enter Try.func3, Try.ntmps3
  go_wp2_with fail
  refine (zz9_yes a n cap w (by omega)).mono ?_
  rintro e w1 ⟨rfl, rfl⟩
  go_wp2_with fail
  refine (clone_any a n cap l _ HL.out (by omega) HN.out HH.out).mono ?_
  rintro e w2 ⟨a', cap', hcap', rfl, hh, hb⟩
  have HA : Hid (Has .u8 w2 a' l) := hh
  have HB : Hid (Below w1.heap.size w1 w2) := hb
  clear hh hb HH HN
  go_wp2_with fail
  refine (zzhex_any a' n cap' l _ HL.out (by omega) hcap' HA.out).mono ?_
  rintro e w2 ⟨h | h, rfl⟩
  · obtain ⟨hg, rfl⟩ := h
    have HG : Hid (Good l) := hg
    clear hg
    go_wp2_with fail
    refine (model_any a' n cap' l _ HL.out (by omega) HA.out).mono ?_
    rintro e w2 ⟨h | h, rfl⟩
    · obtain ⟨_, rfl⟩ := h
      go_wp2
      go_ret
      exact ⟨rfl, HB.out⟩
    · exact absurd HG.out h.1
  · obtain ⟨hg, rfl⟩ := h
    have HG : Hid (¬ Good l) := hg
    clear hg
    go_wp2_with fail
    refine (model_any a' n cap' l _ HL.out (by omega) HA.out).mono ?_
    rintro e w2 ⟨h | h, rfl⟩
    · exact absurd h.1 HG.out
    · obtain ⟨_, rfl⟩ := h
      go_wp2
      go_ret
      exact ⟨rfl, HB.out⟩
end Go.Proofs.Qxb6601011a
