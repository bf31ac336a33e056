/-
  Seat b6603178a: what a slice of int32 reads as; 'zzClone32' (10), 'zzInRange' (9), 'zzSame32' (13).
-/
import Derived.Test.Qxb6603178aRows
import Derived.WalkKit
import Derived.WalkSpells
import Derived.Deep.OwnRows
import Derived.Deep.QuietTactic
import Derived.Deep.LoopGhost
import Derived.BigQuiet
import Derived.OpenShut
namespace Go.Proofs.Qxb6603178a
open Go.RowKit
set_option linter.unusedVariables false

theorem hide {p : Prop} (h : p) : Hid p := h
theorem ret_int {k : IntKind} {a b : Int} (h : a = b) : Ending.returned (.int k a) = .returned (.int k b) := by rw [h]
theorem ret_bool {a b : Bool} (h : a = b) : Ending.returned (.bool a) = .returned (.bool b) := by rw [h]
theorem Below.drewN {B : Nat} {a w : World} (h : Below B a w) (n : Nat) : Below B a (w.drewN n) := ⟨h.os, h.tape, h.output, h.size, h.block⟩

/-- The numbers 'l' lie in memory from the address 'a' on (nothing is said where there is none). -/
def Has (k : IntKind) (w : World) (a : Option Addr) (l : List Int) : Prop :=
  l = [] ∨ ∃ b off, a = some ⟨b, off, none⟩ ∧ ∀ i, i < l.length → w.cell? ⟨b, off + i, none⟩ = some (.int k (l.getD i 0))

theorem Has.below {k : IntKind} {w w' : World} {a : Option Addr} {l : List Int} (h : Has k w a l) (hb : Below w.heap.size w w') : Has k w' a l := by
  rcases h with h | ⟨b, off, ha, hc⟩
  · exact .inl h
  · refine .inr ⟨b, off, ha, fun i hi => ?_⟩
    rw [hb.cell (p := ⟨b, off + i, none⟩) (World.block_lt_of_cell? _ _ (hc i hi))]
    exact hc i hi

theorem Has.at {k : IntKind} {w : World} {a : Option Addr} {l : List Int} (h : Has k w a l) (hl : 0 < l.length) :
    ∃ b off, a = some ⟨b, off, none⟩ ∧ ∀ i, i < l.length → w.cell? ⟨b, off + i, none⟩ = some (.int k (l.getD i 0)) := by
  rcases h with h | h
  · rw [h] at hl; simp at hl
  · exact h

theorem Try.info21 : (Try.prog.info? 21).map (fun i => (i.zero, i.size, i.bytes)) = some (some (.int .i32 0), 1, 4) := by kernel_rfl

theorem clone_nil (w : World) : Calls Try.prog 10 #[.slice none 0 0] w fun e w' => e = .returned (.slice none 0 0) ∧ w' = w := by
  have q22 : ∀ (w : World) (a : Option Addr) (n c n' c' : Nat), (binOp .eql 22 (.slice a n c) (.slice none n' c')).run Try.prog w = .ok (.bool a.isNone) w := fun w a n c n' c' => Lib.run_eql_slice_nil w _ _ a n c n' c' Try.underlying22
  go_enter Try.func10, Try.ntmps10
  go_wp2
  go_ret
  exact ⟨rfl, rfl⟩

/-- What the first k cells hold after k rounds. -/
def part (l : List Int) (k : Nat) (j : Nat) : Value := .int .i32 (if j < k then l.getD j 0 else 0)

theorem clone_some (x : Addr) (n cap : Nat) (l : List Int) (w : World) (hl : l.length = n) (hn : n ≤ 1048576) (h : Has .i32 w (some x) l) :
    Calls Try.prog 10 #[.slice (some x) n cap] w fun e w' => e = .returned (.slice (some ⟨w.heap.size, 0, none⟩) n n) ∧ w'.rowIs w.heap.size 21 n (part l n) ∧ Below w.heap.size w w' := by
  have q22 : ∀ (w : World) (a : Option Addr) (n c n' c' : Nat), (binOp .eql 22 (.slice a n c) (.slice none n' c')).run Try.prog w = .ok (.bool a.isNone) w := fun w a n c n' c' => Lib.run_eql_slice_nil w _ _ a n c n' c' Try.underlying22
  have hmk := run_make_row' (P := Try.prog) 22 21 (.int .i32 0) 4 Try.underlying22 Try.info21 rfl .i64 .i64 n (by omega) (by omega)
  have HL : Hid (l.length = n) := hl
  clear hl
  have HH : Hid (Has .i32 w (some x) l) := h
  clear h
  go_enter Try.func10, Try.ntmps10
  go_wp2
  clear hmk q22
  go_loopw [4] (fun i wr => ∃ k : Nat, k ≤ n ∧ i = .int .i64 k ∧ Hid (wr.rowIs w.heap.size 21 n (part l k)) ∧ Hid (Below w.heap.size w wr)) (fun i _ => n - (intOf i).toNat)
  case atStart => exact ⟨0, Nat.zero_le _, rfl, (World.rowIs_made w _ _ _).congr (fun j _ => by simp [part]), (Below.refl _ _).alloc (Nat.le_refl _) _⟩
  case round =>
    obtain ⟨k, hk, rfl, hrow, hbel⟩ := hrel
    by_cases hlt : k < n
    · have hkz : (k : Int) < (n : Int) := by omega
      obtain ⟨b, off, hx, hc⟩ : ∃ b off, x = ⟨b, off, none⟩ ∧ wr.cell? ⟨b, off + k, none⟩ = some (.int .i32 (l.getD k 0)) := by
        rcases HH.out with h | ⟨b, off, ha, hc⟩
        · have := HL.out; rw [h] at this; simp at this; omega
        · have := hc k (by rw [HL.out]; exact hlt)
          exact ⟨b, off, by simpa using ha, by rw [hbel.out.cell (p := ⟨b, off + k, none⟩) (World.block_lt_of_cell? _ _ this)]; exact this⟩
      subst hx
      have hc1 : wr.cell? ⟨w.heap.size, k, none⟩ = some (part l k k) := hrow.out.cell hlt
      have hf1 : wr.frozen? ⟨w.heap.size, k, none⟩ = false := hrow.out.frozen _
      go_wp2
      go_roundw
      case rel =>
        refine ⟨k + 1, by omega, by go_num, (hrow.out.set _ _).congr (fun j _ => ?_), hbel.out.setCell (Nat.le_refl _) _⟩
        by_cases e : j = k
        · subst e; simp [part]
        · rw [if_neg e]
          have : (j < k + 1) ↔ (j < k) := by omega
          simp [part, this]
      case measure => simp [intOf]; omega
    · obtain rfl : k = n := by omega
      go_wp2
      go_ret
      exact ⟨rfl, hrow.out, hbel.out⟩

/-- A clone: a row of its own, or nothing. -/
def Cloned (w : World) (a : Option Addr) (B n c : Nat) (l : List Int) : Prop :=
  n = 0 ∨ (a = some ⟨B, 0, none⟩ ∧ c = n ∧ w.rowIs B 21 n (fun i => .int .i32 (l.getD i 0)))

theorem Cloned.has {w : World} {a : Option Addr} {B n c : Nat} {l : List Int} (h : Cloned w a B n c l) (hl : l.length = n) : Has .i32 w a l := by
  rcases h with h | ⟨ha, _, hr⟩
  · left; exact List.eq_nil_of_length_eq_zero (by omega)
  · right; exact ⟨B, 0, ha, fun i hi => by rw [Nat.zero_add, hr.cell (by omega)]⟩

theorem Cloned.of_block {w w' : World} {a : Option Addr} {B n c : Nat} {l : List Int} (h : Cloned w a B n c l) (e : n ≠ 0 → w'.heap[B]? = w.heap[B]?) : Cloned w' a B n c l := by
  rcases h with h | ⟨ha, hc, hr⟩
  · exact .inl h
  · by_cases hn : n = 0
    · exact .inl hn
    · exact .inr ⟨ha, hc, hr.of_block (e hn)⟩

/-- 'zzClone32' at whatever slice. -/
theorem clone_any (a : Option Addr) (n cap : Nat) (l : List Int) (w : World) (hl : l.length = n) (hn : n ≤ 1048576) (hnil : a = none → n = 0 ∧ cap = 0) (h : Has .i32 w a l) :
    Calls Try.prog 10 #[.slice a n cap] w fun e w' => ∃ a' cap', e = .returned (.slice a' n cap') ∧ Cloned w' a' w.heap.size n cap' l ∧ (n ≠ 0 → w.heap.size < w'.heap.size) ∧ Below w.heap.size w w' := by
  match a, hnil, h with
  | none, hnil, h =>
    obtain ⟨rfl, rfl⟩ := hnil rfl
    refine (clone_nil w).mono ?_
    rintro e w' ⟨rfl, rfl⟩
    exact ⟨none, 0, rfl, .inl rfl, fun h => absurd rfl h, Below.refl _ _⟩
  | some x, _, h =>
    refine (clone_some x n cap l w hl hn h).mono ?_
    rintro e w' ⟨rfl, hrow, hb⟩
    refine ⟨_, _, rfl, .inr ⟨rfl, rfl, hrow.congr (fun i hi => by simp [part, hi])⟩, fun _ => hrow.lt, hb⟩

/-- 'zzInRange'. -/
def inR (l : List Int) (n : Nat) : Prop := ∀ i, i < l.length → 0 ≤ l.getD i 0 ∧ l.getD i 0 < n

theorem range_some (b off m cap n : Nat) (l : List Int) (w : World) (hl : l.length = m) (hm : m ≤ 1048576) (hn : n ≤ 1048576) (hw : ∀ i, i < m → -2147483648 ≤ l.getD i 0 ∧ l.getD i 0 ≤ 2147483647)
    (hc : ∀ i, i < l.length → w.cell? ⟨b, off + i, none⟩ = some (.int .i32 (l.getD i 0))) :
    Calls Try.prog 9 #[.slice (some ⟨b, off, none⟩) m cap, .int .i64 n] w fun e w' => ((inR l n ∧ e = .returned (.bool true)) ∨ (¬ inR l n ∧ e = .returned (.bool false))) ∧ w' = w := by
  have HL : Hid (l.length = m) := hl
  have HC : Hid (∀ i, i < l.length → w.cell? ⟨b, off + i, none⟩ = some (.int .i32 (l.getD i 0))) := hc
  have HW : Hid (∀ i, i < m → -2147483648 ≤ l.getD i 0 ∧ l.getD i 0 ≤ 2147483647) := hw
  clear hl hc hw
  go_enter Try.func9, Try.ntmps9
  go_wp2
  go_loop [5] (fun i => ∃ k : Nat, k ≤ m ∧ i = .int .i64 k ∧ Hid (∀ j, j < k → 0 ≤ l.getD j 0 ∧ l.getD j 0 < n)) (fun i => m - (intOf i).toNat)
  case atStart => exact ⟨0, Nat.zero_le _, rfl, fun i hi => absurd hi (Nat.not_lt_zero _)⟩
  case round =>
    obtain ⟨k, hk, rfl, HS⟩ := hrel
    by_cases hlt : k < m
    · have hkz : (k : Int) < (m : Int) := by omega
      have hcell := HC.out k (by rw [HL.out]; exact hlt)
      obtain ⟨hw0, hw1⟩ := HW.out k hlt
      obtain ⟨c, hcc⟩ : ∃ c, c = l.getD k 0 := ⟨_, rfl⟩
      rw [← hcc] at hcell hw0 hw1
      have H1 : Hid (c = l.getD k 0) := hcc
      clear hcc
      by_cases h0 : c < 0
      · have HN : Hid (¬ inR l n) := fun h => by have := (h k (by rw [HL.out]; exact hlt)).1; rw [← H1.out] at this; omega
        go_wp2
        go_ret
        exact ⟨.inr ⟨HN.out, rfl⟩, rfl⟩
      · have d0 : decide (c < 0) = false := by simp; omega
        by_cases h1 : c < n
        · go_wp2
          go_round
          case rel =>
            refine ⟨k + 1, by omega, by go_num, fun j hj => ?_⟩
            by_cases e : j = k
            · subst e; rw [← H1.out]; omega
            · exact HS.out j (by omega)
          case measure => simp [intOf]; omega
        · have HN : Hid (¬ inR l n) := fun h => by have := (h k (by rw [HL.out]; exact hlt)).2; rw [← H1.out] at this; omega
          go_wp2
          go_ret
          exact ⟨.inr ⟨HN.out, rfl⟩, rfl⟩
    · obtain rfl : k = m := by omega
      go_wp2
      go_ret
      exact ⟨.inl ⟨fun i hi => HS.out i (by rw [HL.out] at hi; exact hi), rfl⟩, rfl⟩

theorem range_none (a : Option Addr) (cap n : Nat) (w : World) :
    Calls Try.prog 9 #[.slice a 0 cap, .int .i64 n] w fun e w' => e = .returned (.bool true) ∧ w' = w := by
  go_enter Try.func9, Try.ntmps9
  go_wp2
  go_loop [5] (fun i => i = .int .i64 0) (fun i => 0)
  case atStart => rfl
  case round =>
    obtain rfl := hrel
    go_wp2
    go_ret
    exact ⟨rfl, rfl⟩

theorem range_any (a : Option Addr) (m cap n : Nat) (l : List Int) (w : World) (hl : l.length = m) (hm : m ≤ 1048576) (hn : n ≤ 1048576) (hw : ∀ i, i < m → -2147483648 ≤ l.getD i 0 ∧ l.getD i 0 ≤ 2147483647)
    (h : Has .i32 w a l) :
    Calls Try.prog 9 #[.slice a m cap, .int .i64 n] w fun e w' => ((inR l n ∧ e = .returned (.bool true)) ∨ (¬ inR l n ∧ e = .returned (.bool false))) ∧ w' = w := by
  by_cases h0 : m = 0
  · subst h0
    refine (range_none a cap n w).mono ?_
    rintro e w' ⟨rfl, rfl⟩
    exact ⟨.inl ⟨fun i hi => by omega, rfl⟩, rfl⟩
  · obtain ⟨b, off, rfl, hc⟩ := h.at (by omega)
    exact range_some b off m cap n l w hl hm hn hw hc

/-- 'zzSame32' of two slices that hold the same numbers. -/
theorem same_any (a b : Option Addr) (n c1 c2 : Nat) (l : List Int) (w : World) (hl : l.length = n) (hn : n ≤ 1048576) (h1 : Has .i32 w a l) (h2 : Has .i32 w b l) :
    Calls Try.prog 13 #[.slice a n c1, .slice b n c2] w fun e w' => e = .returned (.bool true) ∧ ∃ q, w' = w.drewN q := by
  have HL : Hid (l.length = n) := hl
  have H1 : Hid (Has .i32 w a l) := h1
  have H2 : Hid (Has .i32 w b l) := h2
  clear hl h1 h2
  have e0 : ((n : Int) != (n : Int)) = false := by simp
  go_enter Try.func13, Try.ntmps13
  go_wp2
  go_loopw [5] (fun i wr => ∃ k : Nat, k ≤ n ∧ i = .int .i64 k ∧ Hid (∃ q, wr = w.drewN q)) (fun i _ => n - (intOf i).toNat)
  case atStart => exact ⟨0, Nat.zero_le _, rfl, 0, rfl⟩
  case round =>
    obtain ⟨k, hk, rfl, HQ⟩ := hrel
    by_cases hlt : k < n
    · have hkz : (k : Int) < (n : Int) := by omega
      obtain ⟨b1, o1, hx1, hc1⟩ := H1.out.at (by rw [HL.out]; omega)
      obtain ⟨b2, o2, hx2, hc2⟩ := H2.out.at (by rw [HL.out]; omega)
      subst hx1 hx2
      have g1 : wr.cell? ⟨b1, o1 + k, none⟩ = some (.int .i32 (l.getD k 0)) := by obtain ⟨q, hq⟩ := HQ.out; rw [hq]; exact hc1 k (by rw [HL.out]; exact hlt)
      have g2 : wr.cell? ⟨b2, o2 + k, none⟩ = some (.int .i32 (l.getD k 0)) := by obtain ⟨q, hq⟩ := HQ.out; rw [hq]; exact hc2 k (by rw [HL.out]; exact hlt)
      obtain ⟨c, hcc⟩ : ∃ c, c = l.getD k 0 := ⟨_, rfl⟩
      rw [← hcc] at g1 g2
      clear hc1 hc2 hcc
      have e1 : (c != c) = false := by simp
      go_wp2
      go_quiet (fail)
      go_wp2
      go_roundw
      case rel =>
        refine ⟨k + 1, by omega, by go_num, ?_⟩
        obtain ⟨q, hq⟩ := HQ.out
        exact ⟨_, by rw [hq, World.drewN_drewN]⟩
      case measure => simp [intOf]; omega
    · obtain rfl : k = n := by omega
      go_wp2
      go_ret
      exact ⟨rfl, HQ.out⟩

/-- What the frame's 'IsRow' says, in 'Has''s words. -/
theorem Has.of_row {k : IntKind} {w : World} {a : Option Addr} {len cap : Nat} {zs : List Int}
    (h : (a = none ∧ len = 0 ∧ cap = 0 ∧ zs = []) ∨ ∃ x, a = some x ∧ len ≤ cap ∧ cap ≤ maxLen ∧ zs.length = cap ∧ (∀ i, i < zs.length → w.cell? (x.add i) = some (.int k (zs.getD i 0))) ∧ ∀ n ∈ zs, (Lit.int k n).wf = true) :
    (zs.take len).length = len ∧ (a = none → len = 0 ∧ cap = 0) ∧ Has k w a (zs.take len) ∧ ∀ n ∈ zs.take len, (Lit.int k n).wf = true := by
  rcases h with ⟨rfl, rfl, rfl, rfl⟩ | ⟨x, rfl, hl, hm, hz, hc, hw⟩
  · exact ⟨rfl, fun _ => ⟨rfl, rfl⟩, .inl rfl, by simp⟩
  · have e : (zs.take len).length = len := by simp; omega
    refine ⟨e, by simp, ?_, fun n hn => hw n (List.mem_of_mem_take hn)⟩
    by_cases h0 : len = 0
    · left; subst h0; rfl
    · right
      obtain ⟨b, off, spot⟩ := x
      have hspot : spot = none := by simpa [Addr.add] using World.cell?_spot (hc 0 (by omega))
      subst hspot
      refine ⟨b, off, rfl, fun i hi => ?_⟩
      rw [e] at hi
      have := hc i (by omega)
      rw [show (List.take len zs).getD i 0 = zs.getD i 0 by simp [hi]]
      rw [← WideShapes.add_plain]
      exact this

theorem getD_i32 {l : List Int} (h : ∀ n ∈ l, (Lit.int .i32 n).wf = true) (i : Nat) : -2147483648 ≤ l.getD i 0 ∧ l.getD i 0 ≤ 2147483647 := by
  by_cases hi : i < l.length
  · simp only [List.getD_eq_getElem?_getD, List.getElem?_eq_getElem hi, Option.getD_some]
    have := bounds_i32 (h _ (List.getElem_mem hi))
    omega
  · simp [List.getElem?_eq_none (by omega : l.length ≤ i)]
end Go.Proofs.Qxb6603178a
