/-
  Seat b6603178a: the cube in memory, and what each store and each growth does to it.
-/
import Derived.Test.Qxb6603178aBase
import Derived.Test.Qxb6603178aPlain
import Derived.Deep.AppendLies
namespace Go.Proofs.Qxb6603178a
open Go.RowKit
set_option linter.unusedVariables false

/-- The struct's seven cells. -/
def fields (dims : Int) (hv ov : Value) (CV SL NR n1 n2 : Nat) (c : Int) : Array Value :=
  #[.int .i64 dims, hv, ov, .slice (some ⟨CV, 0, none⟩) n2 n2, .slice (some ⟨SL, 0, none⟩) n1 n1, .int .i64 c, .slice (some ⟨NR, 0, none⟩) n1 n1]

/-- THE CUBE IN MEMORY: the struct in block P; 'covers' in CV, 'slot' in SL, 'near' in NR, 'holder' in HB; the lists in blocks from 'base' on. -/
structure Cube (w : World) (base P CV SL NR HB : Nat) (hv ov : Value) (dims : Int) (n1 n2 : Nat) (H : Nat → Int) (LV : Nat → Value) (ls : Nat → List Int) (S : Nat → Int) (c : Int) : Prop where
  pc : w.heap[P]? = some (.cells (fields dims hv ov CV SL NR n1 n2 c) 45 (0, 0))
  cv : w.rowIs CV 22 n2 LV
  sl : w.rowIs SL 21 n1 (fun x => .int .i32 (S x))
  nr : w.rowIs NR 21 n1 (fun _ => .int .i32 0)
  hb : n1 ≠ 0 → hv = .slice (some ⟨HB, 0, none⟩) n1 n1 ∧ w.rowIs HB 21 n1 (fun x => .int .i32 (H x)) ∧ HB < P ∧ HB < CV ∧ HB < SL ∧ HB < NR
  own : ∀ v, v < n2 → w.ownsRow base 21 1 (LV v) (ls v).length ((ls v).map (.int .i32))
  nil : ∀ v, v < n2 → ls v = [] → LV v = .slice none 0 0
  apart : ∀ v v', v < n2 → v' < n2 → v ≠ v' → ∀ g, (LV v).ownBlock = some g → (LV v').ownBlock ≠ some g
  lt : P < base ∧ CV < base ∧ SL < base ∧ NR < base ∧ base ≤ w.heap.size
  ne : P ≠ CV ∧ P ≠ SL ∧ P ≠ NR ∧ CV ≠ SL ∧ CV ≠ NR ∧ SL ≠ NR

section
variable {w : World} {base P CV SL NR HB : Nat} {hv ov : Value} {dims : Int} {n1 n2 : Nat} {H : Nat → Int} {LV : Nat → Value} {ls : Nat → List Int} {S : Nat → Int} {c : Int}

theorem Cube.drew (h : Cube w base P CV SL NR HB hv ov dims n1 n2 H LV ls S c) : Cube w.drew base P CV SL NR HB hv ov dims n1 n2 H LV ls S c :=
  ⟨h.pc, h.cv, h.sl, h.nr, h.hb, h.own, h.nil, h.apart, h.lt, h.ne⟩

/-- What lies below 'base', of the call's own, is as it was. -/
theorem Cube.cell (h : Cube w base P CV SL NR HB hv ov dims n1 n2 H LV ls S c) {i : Nat} {v : Value} (hi : (fields dims hv ov CV SL NR n1 n2 c)[i]? = some v) : w.cell? ⟨P, i, none⟩ = some v := by
  rw [cell_of_row w P i _ 45 (0, 0) h.pc]; exact hi
theorem Cube.free (h : Cube w base P CV SL NR HB hv ov dims n1 n2 H LV ls S c) (i : Nat) : w.frozen? ⟨P, i, none⟩ = false := frozen_of_row w P i _ 45 h.pc

theorem ownsRow_other {w : World} {base : Nat} {e : TypeId} {v : Value} {n : Nat} {xs : List Value} (h : w.ownsRow base e 1 v n xs) {a : Addr} (ha : a.block < base) (u : Value) : (w.setCell a u).ownsRow base e 1 v n xs :=
  ownsRow_setCell_below h ha u

/-- A store into the holder's row of what is there. -/
theorem Cube.setHolder (h : Cube w base P CV SL NR HB hv ov dims n1 n2 H LV ls S c) (hn : n1 ≠ 0) {x : Nat} {y : Int} (hy : y = H x) : Cube (w.setCell ⟨HB, x, none⟩ (.int .i32 y)) base P CV SL NR HB hv ov dims n1 n2 H LV ls S c := by
  obtain ⟨e1, e2, e3, e4, e5, e6⟩ := h.hb hn
  obtain ⟨l1, l2, l3, l4, l5⟩ := h.lt
  refine ⟨?_, h.cv.setOther (by show CV ≠ HB; omega) _, h.sl.setOther (by show SL ≠ HB; omega) _, h.nr.setOther (by show NR ≠ HB; omega) _, fun _ => ⟨e1, ?_, e3, e4, e5, e6⟩, fun v hv => ownsRow_other (h.own v hv) (by show HB < base; omega) _, h.nil, h.apart, ⟨l1, l2, l3, l4, by simpa using l5⟩, h.ne⟩
  · rw [Deep.blk_setCell_other _ _ _ _ (by show P ≠ HB; omega)]; exact h.pc
  · refine (e2.set x _).congr (fun i hi => ?_)
    by_cases e : i = x
    · subst e; rw [if_pos rfl, hy]
    · rw [if_neg e]

/-- A store into a slot. -/
theorem Cube.setSlot (h : Cube w base P CV SL NR HB hv ov dims n1 n2 H LV ls S c) (x : Nat) (s : Int) : Cube (w.setCell ⟨SL, x, none⟩ (.int .i32 s)) base P CV SL NR HB hv ov dims n1 n2 H LV ls (fun i => if i = x then s else S i) c := by
  obtain ⟨l1, l2, l3, l4, l5⟩ := h.lt
  obtain ⟨a1, a2, a3, a4, a5, a6⟩ := h.ne
  refine ⟨?_, h.cv.setOther (by show CV ≠ SL; omega) _, (h.sl.set x _).congr (fun i hi => ?_), h.nr.setOther (by show NR ≠ SL; omega) _, fun hn => ?_, fun v hv => ownsRow_other (h.own v hv) (by show SL < base; omega) _, h.nil, h.apart, ⟨l1, l2, l3, l4, by simpa using l5⟩, h.ne⟩
  · rw [Deep.blk_setCell_other _ _ _ _ (by show P ≠ SL; omega)]; exact h.pc
  · by_cases e : i = x
    · subst e; simp
    · simp [e]
  · obtain ⟨e1, e2, e3, e4, e5, e6⟩ := h.hb hn
    exact ⟨e1, e2.setOther (by show HB ≠ SL; omega) _, e3, e4, e5, e6⟩

/-- The count. -/
theorem Cube.setCount (h : Cube w base P CV SL NR HB hv ov dims n1 n2 H LV ls S c) (c' : Int) : Cube (w.setCell ⟨P, 5, none⟩ (.int .i64 c')) base P CV SL NR HB hv ov dims n1 n2 H LV ls S c' := by
  obtain ⟨l1, l2, l3, l4, l5⟩ := h.lt
  obtain ⟨a1, a2, a3, a4, a5, a6⟩ := h.ne
  refine ⟨?_, h.cv.setOther (by show CV ≠ P; omega) _, h.sl.setOther (by show SL ≠ P; omega) _, h.nr.setOther (by show NR ≠ P; omega) _, fun hn => ?_, fun v hv => ownsRow_other (h.own v hv) (by show P < base; omega) _, h.nil, h.apart, ⟨l1, l2, l3, l4, by simpa using l5⟩, h.ne⟩
  · rw [heap_setCell_same w P 5 _ 45 _ h.pc]; rfl
  · obtain ⟨e1, e2, e3, e4, e5, e6⟩ := h.hb hn
    exact ⟨e1, e2.setOther (by show HB ≠ P; omega) _, e3, e4, e5, e6⟩

/-- One position more in peer v's list: the row has grown to the world w', and the new value is stored. -/
theorem Cube.push (h : Cube w base P CV SL NR HB hv ov dims n1 n2 H LV ls S c) {v : Nat} (hv2 : v < n2) {w' : World} {g cap : Nat} {x : Int}
    (hown : w'.ownsRow base 21 1 (.slice (some ⟨g, 0, none⟩) ((ls v).length + 1) cap) ((ls v).length + 1) ((ls v).map (.int .i32) ++ [.int .i32 x])) (hg : w.grownBy w' (LV v).ownBlock) (hat : (LV v).ownBlock = some g ∨ w.heap.size ≤ g) :
    Cube (w'.setCell ⟨CV, v, none⟩ (.slice (some ⟨g, 0, none⟩) ((ls v).length + 1) cap)) base P CV SL NR HB hv ov dims n1 n2 H
      (fun i => if i = v then .slice (some ⟨g, 0, none⟩) ((ls v).length + 1) cap else LV i) (fun i => if i = v then ls v ++ [x] else ls i) S c := by
  obtain ⟨l1, l2, l3, l4, l5⟩ := h.lt
  obtain ⟨a1, a2, a3, a4, a5, a6⟩ := h.ne
  have hob : ∀ k, (LV v).ownBlock = some k → base ≤ k ∧ k < w.heap.size := (h.own v hv2).lt
  have old : ∀ b, b < base → w'.heap[b]? = w.heap[b]? := fun b hb => hg.block b (by omega) (fun e => by have := hob b e.symm; omega)
  have hsz : w.heap.size ≤ w'.heap.size := hg.size
  refine ⟨?_, ((h.cv.of_block (old CV l2)).set v _).congr (fun i hi => ?_), (h.sl.of_block (old SL l3)).setOther (by show SL ≠ CV; omega) _, (h.nr.of_block (old NR l4)).setOther (by show NR ≠ CV; omega) _, fun hn => ?_, fun i hi => ?_, fun i hi he => ?_, ?_, ⟨l1, l2, l3, l4, by simp; omega⟩, h.ne⟩
  · rw [Deep.blk_setCell_other _ _ _ _ (by show P ≠ CV; omega), old P l1]; exact h.pc
  · by_cases e : i = v
    · subst e; simp
    · simp [e]
  · obtain ⟨e1, e2, e3, e4, e5, e6⟩ := h.hb hn
    exact ⟨e1, (e2.of_block (old HB (by omega))).setOther (by show HB ≠ CV; omega) _, e3, e4, e5, e6⟩
  · refine ownsRow_other ?_ (by show CV < base; omega) _
    by_cases e : i = v
    · subst e; simpa using hown
    · simp only [if_neg e]
      refine (h.own i hi).kept hg ?_
      cases hb : (LV i).ownBlock with
      | none => exact .inl rfl
      | some k => exact .inr (fun e2 => h.apart i v hi hv2 e k hb e2.symm)
  · by_cases e : i = v
    · subst e; simp at he
    · simp only [if_neg e] at he ⊢; exact h.nil i hi he
  · intro i j hi hj hij k hk hk2
    have hlti : ∀ t, t < n2 → ∀ m, (LV t).ownBlock = some m → m < w.heap.size := fun t ht m hm => ((h.own t ht).lt m hm).2
    by_cases e1 : i = v
    · have e2 : j ≠ v := by omega
      simp only [if_pos e1, if_neg e2] at hk hk2
      simp only [Value.ownBlock, Option.some.injEq] at hk
      rcases hat with h1 | h1
      · exact h.apart v j hv2 hj (by omega) g h1 (by rw [hk2, hk])
      · have := hlti j hj k hk2; omega
    · by_cases e2 : j = v
      · simp only [if_neg e1, if_pos e2] at hk hk2
        simp only [Value.ownBlock, Option.some.injEq] at hk2
        rcases hat with h1 | h1
        · exact h.apart i v hi hv2 e1 k hk (by rw [h1, hk2])
        · have := hlti i hi k hk; omega
      · simp only [if_neg e1, if_neg e2] at hk hk2
        exact h.apart i j hi hj hij k hk hk2

theorem Cube.alloc (h : Cube w base P CV SL NR HB hv ov dims n1 n2 H LV ls S c) (o : Obj) : Cube (w.alloc o) base P CV SL NR HB hv ov dims n1 n2 H LV ls S c := by
  obtain ⟨l1, l2, l3, l4, l5⟩ := h.lt
  refine ⟨?_, h.cv.alloc o, h.sl.alloc o, h.nr.alloc o, fun hn => ?_, fun v hv => (h.own v hv).alloc o, h.nil, h.apart, ⟨l1, l2, l3, l4, by rw [Deep.nblk_alloc]; omega⟩, h.ne⟩
  · rw [Deep.blk_alloc_lt _ _ _ (by omega)]; exact h.pc
  · obtain ⟨e1, e2, e3, e4, e5, e6⟩ := h.hb hn
    exact ⟨e1, e2.alloc o, e3, e4, e5, e6⟩

/-- The same, as the walk of 'cover' leaves it. -/
theorem Cube.pushed (h : Cube w base P CV SL NR HB hv ov dims n1 n2 H LV ls S c) {v : Nat} (hv2 : v < n2) {w' : World} {g cap m cp : Nat} {ao : Option Addr} {x : Int} {o : Obj} (hm : m = (ls v).length) (hF : LV v = .slice ao m cp)
    (hown : w'.ownsRow base 21 1 (.slice (some ⟨g, 0, none⟩) (m + 1) cap) (m + 1) ((ls v).map (.int .i32) ++ [.int .i32 x])) (hg : (w.alloc o).drew.grownBy w' (Value.slice ao m cp).ownBlock) (hat : (Value.slice ao m cp).ownBlock = some g ∨ g = w.heap.size + 1) :
    ∃ LV', Cube (w'.setCell ⟨CV, v, none⟩ (.slice (some ⟨g, 0, none⟩) (m + 1) cap)) base P CV SL NR HB hv ov dims n1 n2 H LV' (fun i => if i = v then ls v ++ [x] else ls i) S c := by
  subst hm
  rw [← hF] at hg hat
  have hat' : (LV v).ownBlock = some g ∨ (w.alloc o).drew.heap.size ≤ g := by
    rcases hat with e | e
    · exact .inl e
    · exact .inr (by show (w.alloc o).heap.size ≤ g; rw [Deep.nblk_alloc]; omega)
  exact ⟨_, Cube.push (w := (w.alloc o).drew) (h.alloc o).drew hv2 hown hg hat'⟩
end

/-- What a call of 'cover' leaves as it was: all below the holder's row; and, below 'base', all but four rows. -/
structure Kept (base HB P CV SL : Nat) (w w' : World) : Prop where
  bel : Below HB w w'
  oth : ∀ b, b < base → b ≠ HB → b ≠ P → b ≠ CV → b ≠ SL → w'.heap[b]? = w.heap[b]?
theorem Kept.refl (base HB P CV SL : Nat) (w : World) : Kept base HB P CV SL w w := ⟨Below.refl _ _, fun _ _ _ _ _ _ => rfl⟩
theorem Kept.trans {base HB P CV SL : Nat} {a b c : World} (h : Kept base HB P CV SL a b) (k : Kept base HB P CV SL b c) : Kept base HB P CV SL a c :=
  ⟨h.bel.trans k.bel, fun i h1 h2 h3 h4 h5 => (k.oth i h1 h2 h3 h4 h5).trans (h.oth i h1 h2 h3 h4 h5)⟩
theorem Kept.drew {base HB P CV SL : Nat} {a b : World} (h : Kept base HB P CV SL a b) : Kept base HB P CV SL a b.drew := ⟨h.bel.drew, h.oth⟩
theorem Kept.set {base HB P CV SL : Nat} {a b : World} (h : Kept base HB P CV SL a b) {p : Addr} (hp : HB ≤ p.block) (h4 : p.block = HB ∨ p.block = P ∨ p.block = CV ∨ p.block = SL) (u : Value) : Kept base HB P CV SL a (b.setCell p u) :=
  ⟨h.bel.setCell hp u, fun i h1 h2 h3 h4' h5 => by rw [Deep.blk_setCell_other _ _ _ _ (by omega)]; exact h.oth i h1 h2 h3 h4' h5⟩

section
variable {w : World} {base P CV SL NR HB : Nat} {hv ov : Value} {dims : Int} {n1 n2 : Nat} {H : Nat → Int} {LV : Nat → Value} {ls : Nat → List Int} {S : Nat → Int} {c : Int}
theorem Cube.pushedKept (h : Cube w base P CV SL NR HB hv ov dims n1 n2 H LV ls S c) {w0 w' : World} {v : Nat} (hB : HB ≤ CV) (hb : Kept base HB P CV SL w0 w) {o : Obj} {ao : Option Addr} {m cp : Nat} (u : Value) (hv2 : v < n2) (hF : LV v = .slice ao m cp) (hg : (w.alloc o).drew.grownBy w' (Value.slice ao m cp).ownBlock) :
    Kept base HB P CV SL w0 (w'.setCell ⟨CV, v, none⟩ u) := by
  obtain ⟨l1, l2, l3, l4, l5⟩ := h.lt
  have hob : ∀ k, (Value.slice ao m cp).ownBlock = some k → base ≤ k := fun k hk => by
    rw [← hF] at hk
    exact ((h.own v hv2).lt k hk).1
  refine Kept.set ⟨(hb.bel.alloc (by omega) o).drew.grown hg (by show HB ≤ (w.alloc o).heap.size; rw [Deep.nblk_alloc]; omega) (fun k hk => by have := hob k hk; omega), fun i h1 h2 h3 h4 h5 => ?_⟩ (p := ⟨CV, v, none⟩) hB (.inr (.inr (.inl rfl))) u
  have e := hg.block i (by show i < (w.alloc o).heap.size; rw [Deep.nblk_alloc]; omega) (fun e => by have := hob i e.symm; omega)
  rw [e]
  exact (Deep.blk_alloc_lt w o i (by omega)).trans (hb.oth i h1 h2 h3 h4 h5)
end
end Go.Proofs.Qxb6603178a
