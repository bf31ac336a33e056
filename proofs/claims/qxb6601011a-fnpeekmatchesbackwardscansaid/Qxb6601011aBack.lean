/-
  Seat b6601011a: the walk of 'FnPeekMatchesBackwardScan' (function 6).
-/
import Derived.Test.Qxb6601011aPeek
namespace Go.Proofs.Qxb6601011a
open Go.RowKit
set_option linter.unusedVariables false

theorem zz16_yes (t : Int) (a : Option Addr) (n cap : Nat) (w : World) (hn : n ≤ 1048576) :
    Calls Try.prog 16 #[.slice a n cap, .int .i64 t] w fun e w' => e = .returned (.bool true) ∧ w' = w := by
  go_enter Try.func16, Try.ntmps16
  go_wp2
  go_ret
  exact ⟨rfl, rfl⟩
theorem zz16_no (t : Int) (a : Option Addr) (n cap : Nat) (w : World) (hn : 1048576 < n) :
    Calls Try.prog 16 #[.slice a n cap, .int .i64 t] w fun e w' => e = .returned (.bool false) ∧ w' = w := by
  go_enter Try.func16, Try.ntmps16
  go_wp2
  go_ret
  exact ⟨rfl, rfl⟩

theorem law6_big (t : Int) (a : Option Addr) (n cap : Nat) (w : World) (hn : 1048576 < n) :
    Calls Try.prog 6 #[.slice a n cap, .int .i64 t] w fun e w' => e = .returned (.bool true) ∧ Below w.heap.size w w' := by
  go_enter Try.func6, Try.ntmps6
  go_wp2_with fail
  refine (zz16_no t a n cap w hn).mono ?_
  rintro e w' ⟨rfl, rfl⟩
  go_wp2
  go_ret
  exact ⟨rfl, Below.refl _ _⟩
theorem law6_neg (t : Int) (a : Option Addr) (n cap : Nat) (w : World) (hn : n ≤ 1048576) (ht : t < 0) :
    Calls Try.prog 6 #[.slice a n cap, .int .i64 t] w fun e w' => e = .returned (.bool true) ∧ Below w.heap.size w w' := by
  go_enter Try.func6, Try.ntmps6
  go_wp2_with fail
  refine (zz16_yes t a n cap w hn).mono ?_
  rintro e w' ⟨rfl, rfl⟩
  go_wp2
  go_ret
  exact ⟨rfl, Below.refl _ _⟩

/-- What the scan from the end remembers behind the place k. -/
def fnd (l : List Int) (k : Nat) : Int := if skip l k < l.length then (skip l k : Int) else -1

theorem skip_le (l : List Int) (m : Nat) (h : m ≤ l.length) : skip l m ≤ l.length := by
  have := (List.takeWhile_sublist sp (l := l.drop m)).length_le
  unfold skip; rw [List.length_drop] at this; omega
theorem skip_ge (l : List Int) (m : Nat) : m ≤ skip l m := by unfold skip; omega

set_option maxHeartbeats 1000000 in
theorem law6_end (m : Nat) (a : Option Addr) (n cap : Nat) (l : List Int) (w : World) (hm : m ≤ 9223372036854775807) (hl : l.length = n) (hn : n ≤ 1048576) (hnil : a = none → n = 0 ∧ cap = 0) (h : Has .u8 w a l) (hmn : n ≤ m) :
    Calls Try.prog 6 #[.slice a n cap, .int .i64 m] w fun e w' => e = .returned (.bool true) ∧ Below w.heap.size w w' := by
  have HL : Hid (l.length = n) := hl
  have HN : Hid (a = none → n = 0 ∧ cap = 0) := hnil
  have HH : Hid (Has .u8 w a l) := h
  clear hl hnil h
  go_enter Try.func6, Try.ntmps6
  go_wp2_with fail
  refine (zz16_yes _ a n cap w hn).mono ?_
  rintro e w1 ⟨rfl, rfl⟩
  go_wp2_with fail
  refine (clone_any a n cap l _ HL.out hn HN.out HH.out).mono ?_
  rintro e w2 ⟨a', cap', hcap', rfl, hh, hb⟩
  have HA : Hid (Has .u8 w2 a' l) := hh
  have HB : Hid (Below w1.heap.size w1 w2) := hb
  clear hh hb HH HN
  go_wp2_with fail
  refine (zzpeek_any a' n cap' m l _ HL.out (by omega) HA.out hm).mono ?_
  rintro e w3 ⟨rfl, hb⟩
  have HB3 : Hid (Below w1.heap.size w1 w3) := HB.out.trans (hb.mono HB.out.size)
  clear hb
  rw [skip_end l m (by rw [HL.out]; exact hmn), show l.getD m 0 = 0 by simp [List.getElem?_eq_none (show l.length ≤ m by rw [HL.out]; exact hmn)]]
  go_wp2
  go_ret
  exact ⟨rfl, HB3.out⟩

set_option maxHeartbeats 1000000 in
theorem law6_in (m : Nat) (a : Option Addr) (n cap : Nat) (l : List Int) (w : World) (hl : l.length = n) (hn : n ≤ 1048576) (hnil : a = none → n = 0 ∧ cap = 0) (h : Has .u8 w a l) (hmn : m < n) :
    Calls Try.prog 6 #[.slice a n cap, .int .i64 m] w fun e w' => e = .returned (.bool true) ∧ Below w.heap.size w w' := by
  have HL : Hid (l.length = n) := hl
  have HN : Hid (a = none → n = 0 ∧ cap = 0) := hnil
  have HH : Hid (Has .u8 w a l) := h
  clear hl hnil h
  go_enter Try.func6, Try.ntmps6
  go_wp2_with fail
  refine (zz16_yes _ a n cap w hn).mono ?_
  rintro e w1 ⟨rfl, rfl⟩
  go_wp2_with fail
  refine (clone_any a n cap l _ HL.out hn HN.out HH.out).mono ?_
  rintro e w2 ⟨a', cap', hcap', rfl, hh, hb⟩
  have HA : Hid (Has .u8 w2 a' l) := hh
  have HB : Hid (Below w1.heap.size w1 w2) := hb
  clear hh hb HH HN
  go_wp2_with fail
  refine (zzpeek_any a' n cap' m l _ HL.out (by omega) HA.out (by omega)).mono ?_
  rintro e w3 ⟨rfl, hb⟩
  have HB3 : Hid (Below w1.heap.size w1 w3) := HB.out.trans (hb.mono HB.out.size)
  obtain ⟨b, off, hx, hc⟩ : ∃ b off, a' = some ⟨b, off, none⟩ ∧ ∀ i, i < l.length → w3.cell? ⟨b, off + i, none⟩ = some (.int .u8 (l.getD i 0)) := by
    rcases HA.out.below hb with h | h
    · have := HL.out; rw [h] at this; simp at this; omega
    · exact h
  have HC : Hid (∀ i, i < l.length → w3.cell? ⟨b, off + i, none⟩ = some (.int .u8 (l.getD i 0))) := hc
  clear hb hc HA
  subst hx
  obtain ⟨S, hS⟩ : ∃ S, S = skip l m := ⟨_, rfl⟩
  obtain ⟨C, hC⟩ : ∃ C, C = l.getD S 0 := ⟨_, rfl⟩
  rw [← hS, ← hC]
  have HS : Hid (S = skip l m) := hS
  have HCC : Hid (C = l.getD S 0) := hC
  have hSn : S ≤ n := by rw [hS, ← HL.out]; exact skip_le l m (by rw [HL.out]; omega)
  have hmS : m ≤ S := by rw [hS]; exact skip_ge l m
  clear hS hC
  have hd1 : decide ((n : Int) ≤ (m : Int)) = false := by simp; omega
  have hd2 : decide (n ≤ m) = false := by simp; omega
  go_wp2
  go_loop [7, 8] (fun f j => ∃ k : Nat, m ≤ k ∧ k ≤ n ∧ j = .int .i64 ((k : Int) - 1) ∧ f = .int .i64 (fnd l k)) (fun _ j => (intOf j + 1).toNat - m)
  case atStart => exact ⟨n, by omega, Nat.le_refl _, rfl, by rw [fnd, skip_end l n (by rw [HL.out]; exact Nat.le_refl _), if_neg (by rw [HL.out]; omega)]⟩
  case round =>
    obtain ⟨k, hk1, hk2, rfl, rfl⟩ := hrel
    by_cases hlt : m < k
    · obtain ⟨j, rfl⟩ : ∃ j, k = j + 1 := ⟨k - 1, by omega⟩
      have hcell := HC.out j (by rw [HL.out]; omega)
      obtain ⟨c, hcc⟩ : ∃ c, c = l.getD j 0 := ⟨_, rfl⟩
      rw [← hcc] at hcell
      rw [show ((j + 1 : Nat) : Int) - 1 = (j : Int) by omega]
      have HD : Hid (c = l.getD j 0) := hcc
      clear hcc
      cases hs : sp c
      · have HE : Hid (fnd l j = (j : Int)) := by
          show fnd l j = (j : Int)
          have := skip_no l j (by rw [HL.out]; omega) (by rw [← HD.out]; exact hs)
          rw [fnd, this, if_pos (by rw [HL.out]; omega)]
        go_wp2_with (go_at_call 18; refine (space_any _ _).mono ?_; rintro e w' ⟨rfl, rfl⟩; rw [hs])
        go_round
        case rel => exact ⟨j, by omega, by omega, by go_num, by rw [HE.out]⟩
        case measure => simp [intOf]; omega
      · have HE : Hid (fnd l j = fnd l (j + 1)) := by
          show fnd l j = fnd l (j + 1)
          have := skip_sp l j (by rw [HL.out]; omega) (by rw [← HD.out]; exact hs)
          rw [fnd, this, fnd]
        go_wp2_with (go_at_call 18; refine (space_any _ _).mono ?_; rintro e w' ⟨rfl, rfl⟩; rw [hs])
        go_round
        case rel => exact ⟨j, by omega, by omega, by go_num, by rw [HE.out]⟩
        case measure => simp [intOf]; omega
    · obtain rfl : k = m := by omega
      by_cases hlt2 : S < n
      · have HE : fnd l k = (S : Int) := by rw [fnd, ← HS.out, if_pos (by rw [HL.out]; exact hlt2)]
        rw [HE]
        clear HE
        have hcell := HC.out S (by rw [HL.out]; exact hlt2)
        rw [← HCC.out] at hcell
        have hSz : (S : Int) < (n : Int) := by omega
        go_wp2
        go_ret
        exact ⟨rfl, HB3.out⟩
      · obtain rfl : S = n := by omega
        have HE : fnd l k = -1 := by rw [fnd, ← HS.out, if_neg (by rw [HL.out]; omega)]
        rw [HE]
        clear HE
        obtain rfl : C = 0 := by rw [HCC.out]; simp [List.getElem?_eq_none (show l.length ≤ S by rw [HL.out]; exact Nat.le_refl _)]
        go_wp2
        go_ret
        exact ⟨rfl, HB3.out⟩

theorem law6 (t : Int) (a : Option Addr) (n cap : Nat) (l : List Int) (w : World) (ht : t ≤ 9223372036854775807) (hl : l.length = n) (hnil : a = none → n = 0 ∧ cap = 0) (h : Has .u8 w a l) :
    Calls Try.prog 6 #[.slice a n cap, .int .i64 t] w fun e w' => e = .returned (.bool true) ∧ Below w.heap.size w w' := by
  by_cases hn : n ≤ 1048576
  · by_cases h0 : t < 0
    · exact law6_neg t a n cap w hn h0
    · obtain ⟨m, rfl⟩ := Int.eq_ofNat_of_zero_le (show 0 ≤ t by omega)
      by_cases hmn : m < n
      · exact law6_in m a n cap l w hl hn hnil h hmn
      · exact law6_end m a n cap l w (by omega) hl hn hnil h (by omega)
  · exact law6_big t a n cap w (by omega)
end Go.Proofs.Qxb6601011a
