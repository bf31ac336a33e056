/-
  Seat b6601011a: 'hexRune' (function 21), 'ZZhexRune' (11): the four digits' value.
-/
import Derived.Test.Qxb6601011aBase
namespace Go.Proofs.Qxb6601011a
open Go.RowKit

def isHex (c : Int) : Prop := (48 ≤ c ∧ c ≤ 57) ∨ (97 ≤ c ∧ c ≤ 102) ∨ (65 ≤ c ∧ c ≤ 70)
def dig (c : Int) : Int := if c ≤ 57 then c - 48 else if c ≤ 70 then c - 55 else c - 87
/-- The value of the first k digits. -/
def acc (l : List Int) : Nat → Int
  | 0 => 0
  | k + 1 => acc l k * 16 + dig (l.getD k 0)
/-- The text begins with four hexadecimal digits. -/
def Good (l : List Int) : Prop := 4 ≤ l.length ∧ ∀ k, k < 4 → isHex (l.getD k 0)

theorem dig_bd {c : Int} (h : isHex c) : 0 ≤ dig c ∧ dig c ≤ 15 := by
  unfold isHex at h; unfold dig
  split
  · omega
  · split <;> omega
theorem acc_pow {l : List Int} : ∀ k, (∀ j, j < k → isHex (l.getD j 0)) → 0 ≤ acc l k ∧ acc l k < 16 ^ k := by
  intro k
  induction k with
  | zero => intro _; exact ⟨Int.le_refl _, by simp [acc]⟩
  | succ k ih =>
    intro h
    have := ih (fun j hj => h j (by omega))
    have := dig_bd (h k (by omega))
    simp only [acc]
    have e : (16 : Int) ^ (k + 1) = 16 ^ k * 16 := Int.pow_succ _ _
    omega
theorem acc_bd {l : List Int} (k : Nat) (hk : k < 4) (h : ∀ j, j < k → isHex (l.getD j 0)) : 0 ≤ acc l k ∧ acc l k < 4096 := by
  have := acc_pow k h
  have h2 : (16 : Int) ^ k ≤ 4096 := by
    rcases (show k = 0 ∨ k = 1 ∨ k = 2 ∨ k = 3 by omega) with rfl | rfl | rfl | rfl <;> decide
  omega
theorem or_step (A d : Int) (h0 : 0 ≤ A) (h1 : A < 4096) (h2 : 0 ≤ d) (h3 : d ≤ 15) : bits .or .i32 (A * 16) d = A * 16 + d :=
  bits_join .i32 31 (by decide) wraps_i32 4 (A * 16) d (by omega) (by omega) (by omega) (by omega) (by omega) (by omega)
theorem step_rel {l : List Int} {k : Nat} {c A d : Int} (hc : c = l.getD k 0) (hA : A = acc l k) (h0 : 0 ≤ A) (h1 : A < 4096) (hx : isHex c) (hd : d = dig c) :
    Value.int IntKind.i32 (bits .or .i32 (A * 16) d) = .int .i32 (acc l (k + 1)) := by
  subst hd
  have := dig_bd hx
  rw [or_step A _ h0 h1 this.1 this.2, hA, hc]
  rfl
theorem upto_step {l : List Int} {k : Nat} (h : ∀ j, j < k → isHex (l.getD j 0)) {c : Int} (hc : c = l.getD k 0) (hx : isHex c) : ∀ j, j < k + 1 → isHex (l.getD j 0) := by
  intro j hj
  by_cases e : j = k
  · subst e; rw [← hc]; exact hx
  · exact h j (by omega)

set_option maxHeartbeats 400000 in
theorem hex_long (b off n cap : Nat) (l : List Int) (w : World) (hl : l.length = n) (hn : 4 ≤ n) (hn2 : n ≤ 2000000) (hnc : 4 ≤ cap) (hc : ∀ i, i < l.length → w.cell? ⟨b, off + i, none⟩ = some (.int .u8 (l.getD i 0))) :
    Calls Try.prog 21 #[.slice (some ⟨b, off, none⟩) n cap] w fun e w' => ((Good l ∧ e = .returned (.tuple #[.int .i32 (acc l 4), .bool true])) ∨ (¬ Good l ∧ e = .returned (.tuple #[.int .i32 0, .bool false]))) ∧ w' = w := by
  have hnz : ¬ (n : Int) < 4 := by omega
  have HC : Hid (∀ i, i < l.length → w.cell? ⟨b, off + i, none⟩ = some (.int .u8 (l.getD i 0))) := hc
  have HL : Hid (l.length = n) := hl
  clear hc hl
  go_enter Try.func21, Try.ntmps21
  go_wp2
  go_loop [4, 13] (fun rn i => ∃ k : Nat, k ≤ 4 ∧ i = .int .i64 k ∧ rn = .int .i32 (acc l k) ∧ Hid (∀ j, j < k → isHex (l.getD j 0))) (fun _ i => 4 - (intOf i).toNat)
  case atStart => exact ⟨0, Nat.zero_le _, rfl, rfl, fun j hj => absurd hj (Nat.not_lt_zero _)⟩
  case round =>
    obtain ⟨k, hk, rfl, rfl, HG⟩ := hrel
    by_cases hlt : k < 4
    · have hcell := HC.out k (by rw [HL.out]; omega)
      obtain ⟨c, hcc⟩ : ∃ c, c = l.getD k 0 := ⟨_, rfl⟩
      obtain ⟨A, hA⟩ : ∃ A, A = acc l k := ⟨_, rfl⟩
      rw [← hcc] at hcell
      obtain ⟨hb1, hb2⟩ := acc_bd k hlt HG.out
      rw [← hA] at hb1 hb2 ⊢
      have H1 : Hid (c = l.getD k 0) := hcc
      have H2 : Hid (A = acc l k) := hA
      clear hcc hA
      have hkz : (k : Int) < 4 := by omega
      by_cases hx : isHex c
      · have HX : Hid (isHex c) := hx
        unfold isHex at hx
        rcases hx with ⟨h1, h2⟩ | ⟨h1, h2⟩ | ⟨h1, h2⟩
        · go_wp2
          go_round
          case rel => exact ⟨k + 1, by omega, by go_num, step_rel H1.out H2.out hb1 hb2 HX.out (by unfold dig; rw [if_pos h2]), upto_step HG.out H1.out HX.out⟩
          case measure => simp [intOf]; omega
        · go_wp2
          go_round
          case rel => exact ⟨k + 1, by omega, by go_num, step_rel H1.out H2.out hb1 hb2 HX.out (by unfold dig; rw [if_neg (by omega), if_neg (by omega)]), upto_step HG.out H1.out HX.out⟩
          case measure => simp [intOf]; omega
        · go_wp2
          go_round
          case rel => exact ⟨k + 1, by omega, by go_num, step_rel H1.out H2.out hb1 hb2 HX.out (by unfold dig; rw [if_neg (by omega), if_pos h2]), upto_step HG.out H1.out HX.out⟩
          case measure => simp [intOf]; omega
      · have HN : Hid (¬ Good l) := fun hg => hx (H1.out ▸ hg.2 k hlt)
        unfold isHex at hx
        rcases (show c < 48 ∨ (57 < c ∧ c < 65) ∨ (70 < c ∧ c < 97) ∨ 102 < c by omega) with h1 | ⟨h1, h2⟩ | ⟨h1, h2⟩ | h1
        all_goals
          clear hx
          go_wp2
          go_ret2
          exact ⟨.inr ⟨HN.out, rfl⟩, rfl⟩
    · obtain rfl : k = 4 := by omega
      go_wp2
      go_ret2
      exact ⟨.inl ⟨⟨by rw [HL.out]; omega, HG.out⟩, rfl⟩, rfl⟩

theorem hex_short (a : Option Addr) (n cap : Nat) (w : World) (hn : n < 4) :
    Calls Try.prog 21 #[.slice a n cap] w fun e w' => e = .returned (.tuple #[.int .i32 0, .bool false]) ∧ w' = w := by
  have hnz : (n : Int) < 4 := by omega
  go_enter Try.func21, Try.ntmps21
  go_wp2
  go_ret2
  exact ⟨rfl, rfl⟩

/-- 'hexRune' at whatever text. -/
theorem hex_any (a : Option Addr) (n cap : Nat) (l : List Int) (w : World) (hl : l.length = n) (hn : n ≤ 2000000) (hnc : n ≤ cap) (h : Has .u8 w a l) :
    Calls Try.prog 21 #[.slice a n cap] w fun e w' => ((Good l ∧ e = .returned (.tuple #[.int .i32 (acc l 4), .bool true])) ∨ (¬ Good l ∧ e = .returned (.tuple #[.int .i32 0, .bool false]))) ∧ w' = w := by
  by_cases h4 : n < 4
  · refine (hex_short a n cap w h4).mono ?_
    rintro e w' ⟨rfl, rfl⟩
    exact ⟨.inr ⟨fun hg => by have := hg.1; omega, rfl⟩, rfl⟩
  · rcases h with h | ⟨b, off, rfl, hc⟩
    · rw [h] at hl; simp at hl; omega
    · exact hex_long b off n cap l w hl (by omega) hn (by omega) hc

theorem zzhex_any (a : Option Addr) (n cap : Nat) (l : List Int) (w : World) (hl : l.length = n) (hn : n ≤ 2000000) (hnc : n ≤ cap) (h : Has .u8 w a l) :
    Calls Try.prog 11 #[.slice a n cap] w fun e w' => ((Good l ∧ e = .returned (.tuple #[.int .i32 (acc l 4), .bool true])) ∨ (¬ Good l ∧ e = .returned (.tuple #[.int .i32 0, .bool false]))) ∧ w' = w := by
  have HL : Hid (l.length = n) := hl
  clear hl
  have HH : Hid (Has .u8 w a l) := h
  clear h
  go_enter Try.func11, Try.ntmps11
  go_wp2_with fail
  refine (hex_any a n cap l w HL.out hn hnc HH.out).mono ?_
  rintro e w' ⟨h | h, rfl⟩
  · obtain ⟨hg, rfl⟩ := h
    have HG : Hid (Good l) := hg
    clear hg
    go_wp2
    go_ret2
    exact ⟨.inl ⟨HG.out, rfl⟩, rfl⟩
  · obtain ⟨hg, rfl⟩ := h
    have HG : Hid (¬ Good l) := hg
    clear hg
    go_wp2
    go_ret2
    exact ⟨.inr ⟨HG.out, rfl⟩, rfl⟩
end Go.Proofs.Qxb6601011a
