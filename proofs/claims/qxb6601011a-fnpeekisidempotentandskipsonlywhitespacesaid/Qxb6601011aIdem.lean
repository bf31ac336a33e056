/-
  Seat b6601011a: the walk of 'FnPeekIsIdempotentAndSkipsOnlyWhitespace' (function 7).
-/
import Derived.Test.Qxb6601011aPeek
namespace Go.Proofs.Qxb6601011a
open Go.RowKit
set_option linter.unusedVariables false

theorem zz19_yes (t : Int) (a : Option Addr) (n cap : Nat) (w : World) (hn : n ≤ 1048576) :
    Calls Try.prog 19 #[.slice a n cap, .int .i64 t] w fun e w' => e = .returned (.bool true) ∧ w' = w := by
  go_enter Try.func19, Try.ntmps19
  go_wp2
  go_ret
  exact ⟨rfl, rfl⟩
theorem zz19_no (t : Int) (a : Option Addr) (n cap : Nat) (w : World) (hn : 1048576 < n) :
    Calls Try.prog 19 #[.slice a n cap, .int .i64 t] w fun e w' => e = .returned (.bool false) ∧ w' = w := by
  go_enter Try.func19, Try.ntmps19
  go_wp2
  go_ret
  exact ⟨rfl, rfl⟩

theorem law7_big (t : Int) (a : Option Addr) (n cap : Nat) (w : World) (hn : 1048576 < n) :
    Calls Try.prog 7 #[.slice a n cap, .int .i64 t] w fun e w' => e = .returned (.bool true) ∧ Below w.heap.size w w' := by
  go_enter Try.func7, Try.ntmps7
  go_wp2_with fail
  refine (zz19_no t a n cap w hn).mono ?_
  rintro e w' ⟨rfl, rfl⟩
  go_wp2
  go_ret
  exact ⟨rfl, Below.refl _ _⟩
theorem law7_neg (t : Int) (a : Option Addr) (n cap : Nat) (w : World) (hn : n ≤ 1048576) (ht : t < 0) :
    Calls Try.prog 7 #[.slice a n cap, .int .i64 t] w fun e w' => e = .returned (.bool true) ∧ Below w.heap.size w w' := by
  go_enter Try.func7, Try.ntmps7
  go_wp2_with fail
  refine (zz19_yes t a n cap w hn).mono ?_
  rintro e w' ⟨rfl, rfl⟩
  go_wp2
  go_ret
  exact ⟨rfl, Below.refl _ _⟩

theorem skip_le' (l : List Int) (m : Nat) (h : m ≤ l.length) : skip l m ≤ l.length := by
  have := (List.takeWhile_sublist sp (l := l.drop m)).length_le
  unfold skip; rw [List.length_drop] at this; omega
theorem skip_ge' (l : List Int) (m : Nat) : m ≤ skip l m := by unfold skip; omega
/-- What is skipped is white space; what it stops at is not. -/
theorem skip_space (l : List Int) : ∀ d m, skip l m = m + d → ∀ i, m ≤ i → i < skip l m → i < l.length → sp (l.getD i 0) = true := by
  intro d
  induction d with
  | zero => intro m h i h1 h2; omega
  | succ d ih =>
    intro m h i h1 h2 h3
    cases hs : sp (l.getD m 0) with
    | false => have := skip_no l m (by omega) hs; omega
    | true =>
      have e := skip_sp l m (by omega) hs
      by_cases him : i = m
      · subst him; exact hs
      · exact ih (m + 1) (by omega) i (by omega) (by omega) h3
theorem skip_stop (l : List Int) : ∀ d m, skip l m = m + d → skip l m < l.length → sp (l.getD (skip l m) 0) = false := by
  intro d
  induction d with
  | zero =>
    intro m h h2
    cases hs : sp (l.getD m 0) with
    | false => rw [h]; exact hs
    | true =>
      have e := skip_sp l m (by omega) hs
      have := skip_ge' l (m + 1)
      omega
  | succ d ih =>
    intro m h h2
    cases hs : sp (l.getD m 0) with
    | false => have := skip_no l m (by omega) hs; omega
    | true =>
      have e := skip_sp l m (by omega) hs
      rw [e]
      exact ih (m + 1) (by omega) (by omega)
theorem skip_twice (l : List Int) (m : Nat) : skip l (skip l m) = skip l m := by
  by_cases h : skip l m < l.length
  · exact skip_no l _ h (skip_stop l (skip l m - m) m (by have := skip_ge' l m; omega) h)
  · exact skip_end l _ (by omega)

set_option maxHeartbeats 1000000 in
theorem law7_pos (m : Nat) (a : Option Addr) (n cap : Nat) (l : List Int) (w : World) (hm : m ≤ 9223372036854775807) (hl : l.length = n) (hn : n ≤ 1048576) (hnil : a = none → n = 0 ∧ cap = 0) (h : Has .u8 w a l) :
    Calls Try.prog 7 #[.slice a n cap, .int .i64 m] w fun e w' => e = .returned (.bool true) ∧ Below w.heap.size w w' := by
  have HL : Hid (l.length = n) := hl
  have HN : Hid (a = none → n = 0 ∧ cap = 0) := hnil
  have HH : Hid (Has .u8 w a l) := h
  clear hl hnil h
  go_enter Try.func7, Try.ntmps7
  go_wp2_with fail
  refine (zz19_yes _ a n cap w hn).mono ?_
  rintro e w1 ⟨rfl, rfl⟩
  go_wp2_with fail
  refine (clone_any a n cap l _ HL.out hn HN.out HH.out).mono ?_
  rintro e w2 ⟨a', cap', hcap', rfl, hh, hb⟩
  have HA : Hid (Has .u8 w2 a' l) := hh
  have HB : Hid (Below w1.heap.size w1 w2) := hb
  clear hh hb HH HN
  go_wp2_with fail
  refine (zzpeek_any a' n cap' m l _ HL.out (by omega) HA.out hm).mono ?_
  rintro e w3 ⟨rfl, hb⟩
  have HB3 : Hid (Below w1.heap.size w1 w3) := HB.out.trans (hb.mono HB.out.size)
  have HA3 : Hid (Has .u8 w3 a' l) := HA.out.below hb
  clear hb HA HB
  obtain ⟨S, hS⟩ : ∃ S, S = skip l m := ⟨_, rfl⟩
  have HT : Hid (skip l S = S) := by show skip l S = S; rw [hS]; exact skip_twice l m
  rw [← hS]
  have HS : Hid (S = skip l m) := hS
  have hmS : m ≤ S := by rw [hS]; exact skip_ge' l m
  have hSn : S ≤ n ∨ S = m := by
    by_cases h : m ≤ n
    · left; rw [hS, ← HL.out]; exact skip_le' l m (by rw [HL.out]; omega)
    · right; rw [hS]; exact skip_end l m (by rw [HL.out]; omega)
  clear hS
  obtain ⟨C, hC⟩ : ∃ C, C = l.getD S 0 := ⟨_, rfl⟩
  rw [← hC]
  have HCC : Hid (C = l.getD S 0) := hC
  clear hC
  go_wp2_with fail
  refine (zzpeek_any a' n cap' S l _ HL.out (by omega) HA3.out (by omega)).mono ?_
  rintro e w4 ⟨rfl, hb⟩
  have HB4 : Hid (Below w1.heap.size w1 w4) := HB3.out.trans (hb.mono HB3.out.size)
  have HA4 : Hid (Has .u8 w4 a' l) := HA3.out.below hb
  clear hb HA3 HB3
  rw [HT.out, ← HCC.out]
  have hd3 : decide ((S : Int) < (m : Int)) = false := by simp; omega
  have hd4 : decide (S < m) = false := by simp; omega
  by_cases hlt : n < S
  · -- the text's end lies ahead of 'at'
    have hSm : S = m := by omega
    obtain rfl : C = 0 := by rw [HCC.out]; simp [List.getElem?_eq_none (show l.length ≤ S by rw [HL.out]; omega)]
    subst hSm
    have hnS : (n : Int) < (S : Int) := by omega
    go_wp2
    go_loop [10] (fun i => i = .int .i64 S) (fun _ => 0)
    case atStart => rfl
    case round =>
      obtain rfl := hrel
      go_wp2
      go_ret
      exact ⟨rfl, HB4.out⟩
  · have hd5 : decide ((n : Int) < (S : Int)) = false := by simp; omega
    have hd6 : decide (n < S) = false := by simp; omega
    go_wp2
    go_loop [10] (fun i => ∃ k : Nat, m ≤ k ∧ k ≤ S ∧ i = .int .i64 k) (fun i => S - (intOf i).toNat)
    case atStart => exact ⟨m, Nat.le_refl _, hmS, rfl⟩
    case round =>
      obtain ⟨k, hk1, hk2, rfl⟩ := hrel
      by_cases hks : k < S
      · have hkz : (k : Int) < (S : Int) := by omega
        have hkn : (k : Int) < (n : Int) := by omega
        obtain ⟨b, off, hx, hc⟩ : ∃ b off, a' = some ⟨b, off, none⟩ ∧ w4.cell? ⟨b, off + k, none⟩ = some (.int .u8 (l.getD k 0)) := by
          rcases HA4.out with h | ⟨b, off, ha, hc⟩
          · have := HL.out; rw [h] at this; simp at this; omega
          · exact ⟨b, off, ha, hc k (by rw [HL.out]; omega)⟩
        subst hx
        have hs : sp (l.getD k 0) = true := skip_space l (S - m) m (by rw [← HS.out]; omega) k hk1 (by rw [← HS.out]; exact hks) (by rw [HL.out]; omega)
        obtain ⟨c, hcc⟩ : ∃ c, c = l.getD k 0 := ⟨_, rfl⟩
        rw [← hcc] at hc hs
        clear hcc
        go_wp2_with (go_at_call 18; refine (space_any _ _).mono ?_; rintro e w' ⟨rfl, rfl⟩; rw [hs])
        go_round
        case rel => exact ⟨k + 1, by omega, by omega, by go_num⟩
        case measure => simp [intOf]; omega
      · obtain rfl : k = S := by omega
        by_cases hkn : k < n
        · have hkz : (k : Int) < (n : Int) := by omega
          obtain ⟨b, off, hx, hc⟩ : ∃ b off, a' = some ⟨b, off, none⟩ ∧ w4.cell? ⟨b, off + k, none⟩ = some (.int .u8 (l.getD k 0)) := by
            rcases HA4.out with h | ⟨b, off, ha, hc⟩
            · have := HL.out; rw [h] at this; simp at this; omega
            · exact ⟨b, off, ha, hc k (by rw [HL.out]; omega)⟩
          subst hx
          have hs : sp (l.getD k 0) = false := by
            have := skip_stop l (k - m) m (by rw [← HS.out]; omega) (by rw [← HS.out, HL.out]; exact hkn)
            rw [← HS.out] at this; exact this
          rw [← HCC.out] at hc hs
          go_wp2_with (go_at_call 18; refine (space_any _ _).mono ?_; rintro e w' ⟨rfl, rfl⟩; rw [hs])
          go_ret
          exact ⟨rfl, HB4.out⟩
        · obtain rfl : C = 0 := by rw [HCC.out]; simp [List.getElem?_eq_none (show l.length ≤ k by rw [HL.out]; omega)]
          have hkz : ¬ (k : Int) < (n : Int) := by omega
          go_wp2
          go_ret
          exact ⟨rfl, HB4.out⟩

theorem law7 (t : Int) (a : Option Addr) (n cap : Nat) (l : List Int) (w : World) (ht : t ≤ 9223372036854775807) (hl : l.length = n) (hnil : a = none → n = 0 ∧ cap = 0) (h : Has .u8 w a l) :
    Calls Try.prog 7 #[.slice a n cap, .int .i64 t] w fun e w' => e = .returned (.bool true) ∧ Below w.heap.size w w' := by
  by_cases hn : n ≤ 1048576
  · by_cases h0 : t < 0
    · exact law7_neg t a n cap w hn h0
    · obtain ⟨m, rfl⟩ := Int.eq_ofNat_of_zero_le (show 0 ≤ t by omega)
      exact law7_pos m a n cap l w (by omega) hl hn hnil h
  · exact law7_big t a n cap w (by omega)
end Go.Proofs.Qxb6601011a
