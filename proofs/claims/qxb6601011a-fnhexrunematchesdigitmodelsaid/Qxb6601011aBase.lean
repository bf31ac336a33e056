/-
  Seat b6601011a: what a slice of bytes reads as, and 'cloneBytes' (function 10).
-/
import Derived.Test.Qxb6601011aRows
import Derived.WalkKit
import Derived.WalkSpells
import Derived.Deep.OwnRows
import Derived.OpenShut
namespace Go.Proofs.Qxb6601011a
open Go.RowKit

theorem hide {p : Prop} (h : p) : Hid p := h

/-- The numbers 'l' lie in memory from the address 'a' on (nothing is said where there is none). -/
def Has (k : IntKind) (w : World) (a : Option Addr) (l : List Int) : Prop :=
  l = [] ∨ ∃ b off, a = some ⟨b, off, none⟩ ∧ ∀ i, i < l.length → w.cell? ⟨b, off + i, none⟩ = some (.int k (l.getD i 0))

theorem Has.below {k : IntKind} {w w' : World} {a : Option Addr} {l : List Int} (h : Has k w a l) (hb : Below w.heap.size w w') : Has k w' a l := by
  rcases h with h | ⟨b, off, ha, hc⟩
  · exact .inl h
  · refine .inr ⟨b, off, ha, fun i hi => ?_⟩
    rw [hb.cell (p := ⟨b, off + i, none⟩) (World.block_lt_of_cell? _ _ (hc i hi))]
    exact hc i hi

theorem Try.info5 : (Try.prog.info? 5).map (fun i => (i.zero, i.size, i.bytes)) = some (some (.int .u8 0), 1, 1) := by kernel_rfl

theorem clone_nil (w : World) : Calls Try.prog 10 #[.slice none 0 0] w fun e w' => e = .returned (.slice none 0 0) ∧ w' = w := by
  have q22 : ∀ (w : World) (a : Option Addr) (n c n' c' : Nat), (binOp .eql 22 (.slice a n c) (.slice none n' c')).run Try.prog w = .ok (.bool a.isNone) w := fun w a n c n' c' => Lib.run_eql_slice_nil w _ _ a n c n' c' Try.underlying22
  go_enter Try.func10, Try.ntmps10
  go_wp2
  go_ret
  exact ⟨rfl, rfl⟩

/-- What the first k cells hold after k rounds. -/
def part (l : List Int) (k : Nat) (j : Nat) : Value := .int .u8 (if j < k then l.getD j 0 else 0)

theorem clone_some (x : Addr) (n cap : Nat) (l : List Int) (w : World) (hl : l.length = n) (hn : n ≤ 1048576) (h : Has .u8 w (some x) l) :
    Calls Try.prog 10 #[.slice (some x) n cap] w fun e w' => e = .returned (.slice (some ⟨w.heap.size, 0, none⟩) n n) ∧ w'.rowIs w.heap.size 5 n (part l n) ∧ Below w.heap.size w w' := by
  have q22 : ∀ (w : World) (a : Option Addr) (n c n' c' : Nat), (binOp .eql 22 (.slice a n c) (.slice none n' c')).run Try.prog w = .ok (.bool a.isNone) w := fun w a n c n' c' => Lib.run_eql_slice_nil w _ _ a n c n' c' Try.underlying22
  have hmk := run_make_row' (P := Try.prog) 22 5 (.int .u8 0) 1 Try.underlying22 Try.info5 rfl .i64 .i64 n (by omega) (by omega)
  have HL : Hid (l.length = n) := hl
  clear hl
  have HH : Hid (Has .u8 w (some x) l) := h
  clear h
  go_enter Try.func10, Try.ntmps10
  go_wp2
  clear hmk q22
  go_loopw [4] (fun i wr => ∃ k : Nat, k ≤ n ∧ i = .int .i64 k ∧ Hid (wr.rowIs w.heap.size 5 n (part l k)) ∧ Hid (Below w.heap.size w wr)) (fun i _ => n - (intOf i).toNat)
  case atStart => exact ⟨0, Nat.zero_le _, rfl, (World.rowIs_made w _ _ _).congr (fun j _ => by simp [part]), (Below.refl _ _).alloc (Nat.le_refl _) _⟩
  case round =>
    obtain ⟨k, hk, rfl, hrow, hbel⟩ := hrel
    by_cases hlt : k < n
    · have hkz : (k : Int) < (n : Int) := by omega
      obtain ⟨b, off, hx, hc⟩ : ∃ b off, x = ⟨b, off, none⟩ ∧ wr.cell? ⟨b, off + k, none⟩ = some (.int .u8 (l.getD k 0)) := by
        rcases HH.out with h | ⟨b, off, ha, hc⟩
        · have := HL.out; rw [h] at this; simp at this; omega
        · have := hc k (by rw [HL.out]; exact hlt)
          exact ⟨b, off, by simpa using ha, by rw [hbel.out.cell (p := ⟨b, off + k, none⟩) (World.block_lt_of_cell? _ _ this)]; exact this⟩
      subst hx
      have hc1 : wr.cell? ⟨w.heap.size, k, none⟩ = some (part l k k) := hrow.out.cell hlt
      have hf1 : wr.frozen? ⟨w.heap.size, k, none⟩ = false := hrow.out.frozen _
      go_wp2
      go_roundw
      case rel =>
        refine ⟨k + 1, by omega, by go_num, (hrow.out.set _ _).congr (fun j _ => ?_), hbel.out.setCell (Nat.le_refl _) _⟩
        by_cases e : j = k
        · subst e; simp [part]
        · rw [if_neg e]
          have : (j < k + 1) ↔ (j < k) := by omega
          simp [part, this]
      case measure => simp [intOf]; omega
    · obtain rfl : k = n := by omega
      go_wp2
      go_ret
      exact ⟨rfl, hrow.out, hbel.out⟩

/-- 'cloneBytes' at whatever slice: the same numbers, in memory that reads as it did. -/
theorem clone_any (a : Option Addr) (n cap : Nat) (l : List Int) (w : World) (hl : l.length = n) (hn : n ≤ 1048576) (hnil : a = none → n = 0 ∧ cap = 0) (h : Has .u8 w a l) :
    Calls Try.prog 10 #[.slice a n cap] w fun e w' => ∃ a' cap', n ≤ cap' ∧ e = .returned (.slice a' n cap') ∧ Has .u8 w' a' l ∧ Below w.heap.size w w' := by
  match a, hnil, h with
  | none, hnil, h =>
    obtain ⟨rfl, rfl⟩ := hnil rfl
    refine (clone_nil w).mono ?_
    rintro e w' ⟨rfl, rfl⟩
    exact ⟨none, 0, Nat.le_refl _, rfl, .inl (List.eq_nil_of_length_eq_zero hl), Below.refl _ _⟩
  | some x, _, h =>
    refine (clone_some x n cap l w hl hn h).mono ?_
    rintro e w' ⟨rfl, hrow, hb⟩
    refine ⟨_, _, Nat.le_refl _, rfl, .inr ⟨_, _, rfl, fun i hi => ?_⟩, hb⟩
    rw [Nat.zero_add, hrow.cell (by omega)]
    simp [part, show i < n by omega]

/-- What the frame's 'IsRow' says, in 'Has''s words. -/
theorem Has.of_row {k : IntKind} {w : World} {a : Option Addr} {len cap : Nat} {zs : List Int}
    (h : (a = none ∧ len = 0 ∧ cap = 0 ∧ zs = []) ∨ ∃ x, a = some x ∧ len ≤ cap ∧ cap ≤ maxLen ∧ zs.length = cap ∧ (∀ i, i < zs.length → w.cell? (x.add i) = some (.int k (zs.getD i 0))) ∧ ∀ n ∈ zs, (Lit.int k n).wf = true) :
    (zs.take len).length = len ∧ (a = none → len = 0 ∧ cap = 0) ∧ Has k w a (zs.take len) ∧ ∀ n ∈ zs.take len, (Lit.int k n).wf = true := by
  rcases h with ⟨rfl, rfl, rfl, rfl⟩ | ⟨x, rfl, hl, hm, hz, hc, hw⟩
  · exact ⟨rfl, fun _ => ⟨rfl, rfl⟩, .inl rfl, by simp⟩
  · have e : (zs.take len).length = len := by simp; omega
    refine ⟨e, by simp, ?_, fun n hn => hw n (List.mem_of_mem_take hn)⟩
    by_cases h0 : len = 0
    · left; subst h0; rfl
    · right
      obtain ⟨b, off, spot⟩ := x
      have hspot : spot = none := by simpa [Addr.add] using World.cell?_spot (hc 0 (by omega))
      subst hspot
      refine ⟨b, off, rfl, fun i hi => ?_⟩
      rw [e] at hi
      have := hc i (by omega)
      rw [show (List.take len zs).getD i 0 = zs.getD i 0 by simp [hi]]
      rw [← WideShapes.add_plain]
      exact this

theorem byte_of_wf {n : Int} (h : (Lit.int .u8 n).wf = true) : 0 ≤ n ∧ n ≤ 255 := by
  have := bounds_u8 h
  omega

theorem getD_byte {l : List Int} (h : ∀ n ∈ l, (Lit.int .u8 n).wf = true) (i : Nat) : 0 ≤ l.getD i 0 ∧ l.getD i 0 ≤ 255 := by
  by_cases hi : i < l.length
  · simp only [List.getD_eq_getElem?_getD, List.getElem?_eq_getElem hi, Option.getD_some]
    exact byte_of_wf (h _ (List.getElem_mem hi))
  · simp [List.getElem?_eq_none (by omega : l.length ≤ i)]

end Go.Proofs.Qxb6601011a
