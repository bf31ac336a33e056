/-
  Seat b6601011a: 'isJSONSpace' (18), '(*jsonReader).peek' (23), 'ZZpeek' (17).
-/
import Derived.Test.Qxb6601011aBase
import Derived.Deep.QuietTactic
import Derived.Deep.LoopGhost
import Derived.BigQuiet
namespace Go.Proofs.Qxb6601011a
open Go.RowKit
set_option linter.unusedVariables false

/-- JSON's white space. -/
def sp (c : Int) : Bool := c == 32 || c == 9 || c == 10 || c == 13
/-- Where the next byte that is no white space stands, from m on (or the text's end). -/
def skip (l : List Int) (m : Nat) : Nat := m + ((l.drop m).takeWhile sp).length

theorem sp_cases {c : Int} (h : sp c = true) : c = 32 ∨ c = 9 ∨ c = 10 ∨ c = 13 := by
  simp [sp] at h; omega
theorem sp_not {c : Int} (h : sp c = false) : c ≠ 32 ∧ c ≠ 9 ∧ c ≠ 10 ∧ c ≠ 13 := by
  simp [sp] at h; omega
theorem skip_end (l : List Int) (m : Nat) (h : l.length ≤ m) : skip l m = m := by
  unfold skip; rw [List.drop_of_length_le h]; rfl
theorem drop_getD (l : List Int) (m : Nat) (h : m < l.length) : l.drop m = l.getD m 0 :: l.drop (m + 1) := by
  rw [List.drop_eq_getElem_cons h]; simp [List.getElem?_eq_getElem h]
theorem skip_sp (l : List Int) (m : Nat) (h : m < l.length) (hs : sp (l.getD m 0) = true) : skip l m = skip l (m + 1) := by
  unfold skip; rw [drop_getD l m h, List.takeWhile_cons, if_pos hs]; simp; omega
theorem skip_no (l : List Int) (m : Nat) (h : m < l.length) (hs : sp (l.getD m 0) = false) : skip l m = m := by
  unfold skip; rw [drop_getD l m h, List.takeWhile_cons, if_neg (by rw [hs]; simp)]; simp

theorem ret_int {k : IntKind} {a b : Int} (h : a = b) : Ending.returned (.int k a) = .returned (.int k b) := by rw [h]
theorem ret_bool {a b : Bool} (h : a = b) : Ending.returned (.bool a) = .returned (.bool b) := by rw [h]

theorem space_any (c : Int) (w : World) : Calls Try.prog 18 #[.int .u8 c] w fun e w' => e = .returned (.bool (sp c)) ∧ w' = w := by
  by_cases h1 : c = 32
  · subst h1
    go_enter Try.func18, Try.ntmps18
    go_wp2
    go_ret
    exact ⟨rfl, rfl⟩
  by_cases h2 : c = 9
  · subst h2
    go_enter Try.func18, Try.ntmps18
    go_wp2
    go_ret
    exact ⟨rfl, rfl⟩
  by_cases h3 : c = 10
  · subst h3
    go_enter Try.func18, Try.ntmps18
    go_wp2
    go_ret
    exact ⟨rfl, rfl⟩
  by_cases h4 : c = 13
  · subst h4
    go_enter Try.func18, Try.ntmps18
    go_wp2
    go_ret
    exact ⟨rfl, rfl⟩
  have e1 : (c == 32) = false := by simp [h1]
  have e2 : (c == 9) = false := by simp [h2]
  have e3 : (c == 10) = false := by simp [h3]
  have e4 : (c == 13) = false := by simp [h4]
  have HS : Hid (sp c = false) := by show sp c = false; simp [sp, h1, h2, h3, h4]
  clear h1 h2 h3 h4
  go_enter Try.func18, Try.ntmps18
  go_wp2
  go_ret
  exact ⟨ret_bool HS.out.symm, rfl⟩

theorem Below.drewN {B : Nat} {a w : World} (h : Below B a w) (n : Nat) : Below B a (w.drewN n) := ⟨h.os, h.tape, h.output, h.size, h.block⟩

/-- What a step of 'r.at++' leaves. -/
theorem peek_next {p : Nat} {w wr : World} {x y : Value} (q : Nat) (v : Value) (h0 : wr.cell? ⟨p, 0, none⟩ = some x) (h1 : wr.cell? ⟨p, 1, none⟩ = some y) (hf : wr.frozen? ⟨p, 1, none⟩ = false) (hb : Below p w wr) :
    ((wr.drewN q).setCell ⟨p, 1, none⟩ v).cell? ⟨p, 0, none⟩ = some x ∧ ((wr.drewN q).setCell ⟨p, 1, none⟩ v).cell? ⟨p, 1, none⟩ = some v ∧ ((wr.drewN q).setCell ⟨p, 1, none⟩ v).frozen? ⟨p, 1, none⟩ = false ∧ Below p w ((wr.drewN q).setCell ⟨p, 1, none⟩ v) := by
  refine ⟨?_, ?_, ?_, ?_⟩
  · rw [World.cell?_setCell_other _ _ _ _ (by simp)]; exact h0
  · exact World.cell?_setCell_same _ _ _ (u := y) h1
  · rw [World.frozen?_setCell]; exact hf
  · exact (Below.drewN hb q).setCell (Nat.le_refl _) v

set_option maxHeartbeats 1000000 in
theorem peek_any (p : Nat) (a : Option Addr) (n cap m : Nat) (l : List Int) (w : World) (hl : l.length = n) (hn : n ≤ 2000000) (h : Has .u8 w a l) (hm : m ≤ 9223372036854775807)
    (hp0 : w.cell? ⟨p, 0, none⟩ = some (.slice a n cap)) (hp1 : w.cell? ⟨p, 1, none⟩ = some (.int .i64 m)) (hf : w.frozen? ⟨p, 1, none⟩ = false) (hlow : l ≠ [] → ∀ b off, a = some ⟨b, off, none⟩ → b < p) :
    Calls Try.prog 23 #[.pointer (some ⟨p, 0, none⟩)] w fun e w' => e = .returned (.int .u8 (l.getD (skip l m) 0)) ∧ w'.cell? ⟨p, 1, none⟩ = some (.int .i64 (skip l m)) ∧ Below p w w' := by
  have HL : Hid (l.length = n) := hl
  have HH : Hid (Has .u8 w a l) := h
  have HP0 : Hid (w.cell? ⟨p, 0, none⟩ = some (.slice a n cap)) := hp0
  have HP1 : Hid (w.cell? ⟨p, 1, none⟩ = some (.int .i64 m)) := hp1
  have HF : Hid (w.frozen? ⟨p, 1, none⟩ = false) := hf
  have HW : Hid (l ≠ [] → ∀ b off, a = some ⟨b, off, none⟩ → b < p) := hlow
  clear hl h hp0 hp1 hf hlow
  go_enter Try.func23, Try.ntmps23
  go_wp2
  go_loopg [3] (n - m) (fun g v wr => ∃ k : Nat, Hid (skip l k = skip l m) ∧ m ≤ k ∧ (k ≤ n ∨ k = m) ∧ g = n - k ∧ Hid (wr.cell? ⟨p, 0, none⟩ = some (.slice a n cap)) ∧ Hid (wr.cell? ⟨p, 1, none⟩ = some (.int .i64 k)) ∧ Hid (wr.frozen? ⟨p, 1, none⟩ = false) ∧ Hid (Below p w wr))
  case atStart => exact ⟨m, rfl, Nat.le_refl _, .inr rfl, rfl, HP0.out, HP1.out, HF.out, Below.refl _ _⟩
  case round =>
    obtain ⟨k, HK, hmk, hkn, hgk, H0, H1, HFr, HB⟩ := hrel
    have h0 := H0.out
    have h1 := H1.out
    have hf := HFr.out
    by_cases hlt : k < n
    · have hkz : (k : Int) < (n : Int) := by omega
      obtain ⟨b, off, hx, hc⟩ : ∃ b off, a = some ⟨b, off, none⟩ ∧ wr.cell? ⟨b, off + k, none⟩ = some (.int .u8 (l.getD k 0)) := by
        rcases HH.out with h | ⟨b, off, ha, hc⟩
        · have := HL.out; rw [h] at this; simp at this; omega
        · have := hc k (by rw [HL.out]; exact hlt)
          exact ⟨b, off, ha, by rw [HB.out.cell (p := ⟨b, off + k, none⟩) (HW.out (by intro e; have := HL.out; rw [e] at this; simp at this; omega) b off ha)]; exact this⟩
      subst hx
      obtain ⟨c, hcc⟩ : ∃ c, c = l.getD k 0 := ⟨_, rfl⟩
      rw [← hcc] at hc
      have HC : Hid (c = l.getD k 0) := hcc
      clear hcc
      by_cases hs : sp c = true
      · have HN : Hid (skip l (k + 1) = skip l m) := by
          show skip l (k + 1) = skip l m
          rw [← HK.out]; exact (skip_sp l k (by rw [HL.out]; exact hlt) (by rw [← HC.out]; exact hs)).symm
        rcases sp_cases hs with rfl | rfl | rfl | rfl
        all_goals
          clear hs
          go_wp2
          go_quiet (fail)
          go_wp2
          go_quiet (fail)
          go_wp2
          go_roundg (n - (k + 1))
          case measure => omega
          case rel =>
            obtain ⟨r0, r1, r2, r3⟩ := peek_next _ (.int .i64 ((k : Int) + 1)) H0.out H1.out HFr.out HB.out
            exact ⟨k + 1, HN.out, by omega, .inl (by omega), rfl, r0, r1, r2, r3⟩
      · have hs' : sp c = false := by simpa using hs
        have HN : Hid (skip l m = k) := by
          show skip l m = k
          rw [← HK.out]; exact skip_no l k (by rw [HL.out]; exact hlt) (by rw [← HC.out]; exact hs')
        obtain ⟨n1, n2, n3, n4⟩ := sp_not hs'
        have e1 : (c == 32) = false := by simp [n1]
        have e2 : (c == 9) = false := by simp [n2]
        have e3 : (c == 10) = false := by simp [n3]
        have e4 : (c == 13) = false := by simp [n4]
        clear hs hs' n1 n2 n3 n4
        go_wp2
        go_quiet (fail)
        go_wp2
        go_quiet (fail)
        go_wp2
        go_ret
        refine ⟨ret_int (by rw [HN.out, HC.out]), ?_, ?_⟩
        · rw [HN.out]; exact H1.out
        · exact Below.drewN HB.out _
    · have hkz : ¬ (k : Int) < (n : Int) := by omega
      go_wp2
      go_quiet (fail)
      go_wp2
      go_ret
      have HN : skip l m = k := by rw [← HK.out]; exact skip_end l k (by rw [HL.out]; omega)
      refine ⟨ret_int ?_, ?_, ?_⟩
      · rw [HN]; simp [List.getElem?_eq_none (show l.length ≤ k by rw [HL.out]; omega)]
      · rw [HN]; exact H1.out
      · exact Below.drewN HB.out _

/-- 'ZZpeek': the byte and the place. -/
theorem zzpeek_any (a : Option Addr) (n cap m : Nat) (l : List Int) (w : World) (hl : l.length = n) (hn : n ≤ 2000000) (h : Has .u8 w a l) (hm : m ≤ 9223372036854775807) :
    Calls Try.prog 17 #[.slice a n cap, .int .i64 m] w fun e w' => e = .returned (.tuple #[.int .u8 (l.getD (skip l m) 0), .int .i64 (skip l m)]) ∧ Below w.heap.size w w' := by
  have HL : Hid (l.length = n) := hl
  have HH : Hid (Has .u8 w a l) := h
  clear hl h
  go_enter Try.func17, Try.ntmps17
  go_wp2_with fail
  have HB0 : Hid (Below w.heap.size w (w.alloc (.cells #[.slice a n cap, .int .i64 m] 39))) := (Below.refl _ _).alloc (Nat.le_refl _) _
  refine (peek_any w.heap.size a n cap m l _ HL.out hn (HH.out.below HB0.out) hm (by simp) (by simp) (by simp) ?_).mono ?_
  · intro hne b off ha
    rcases HH.out with h | ⟨b', off', ha', hc⟩
    · exact absurd h hne
    · rw [ha] at ha'
      cases ha'
      exact World.block_lt_of_cell? _ _ (hc 0 (List.length_pos_iff.2 hne))
  rintro e w1 ⟨rfl, hc1, hb1⟩
  have HB1 : Hid (Below w.heap.size w w1) := HB0.out.trans hb1
  clear hb1
  go_wp2
  go_quiet (fail)
  go_wp2
  go_ret2
  exact ⟨rfl, Below.drewN HB1.out _⟩
end Go.Proofs.Qxb6601011a
