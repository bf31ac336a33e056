/-
  Seat b6603178a: '(*Cube).cover' (function 31).
-/
import Derived.Test.Qxb6603178aCube
import Derived.Deep.RegionHeld3
import Derived.Deep.RegionLaw
namespace Go.Proofs.Qxb6603178a
open Go.RowKit
set_option linter.unusedVariables false

theorem own_form {w : World} {base : Nat} {v : Value} {n : Nat} {xs : List Value} (h : w.ownsRow base 21 1 v n xs) : ∃ ao cp, v = .slice ao n cp := by
  rcases h.2 with ⟨h1, h2⟩ | ⟨g, cap, cur, h1, _⟩
  · exact ⟨none, 0, by rw [h1, h2]⟩
  · exact ⟨_, _, h1⟩

theorem grown_block {W w3 : World} {o : Obj} {row : Option Nat} (hg : (W.alloc o).drew.grownBy w3 row) {b : Nat} (hb : b < W.heap.size) (hne : some b ≠ row) : w3.heap[b]? = W.heap[b]? := by
  have h1 := hg.block b (by show b < (W.alloc o).heap.size; rw [Deep.nblk_alloc]; omega) hne
  exact h1.trans (Deep.blk_alloc_lt W o b hb)
theorem grown_cell {W w3 : World} {o : Obj} {row : Option Nat} (hg : (W.alloc o).drew.grownBy w3 row) {b i : Nat} (hb : b < W.heap.size) (hne : some b ≠ row) : w3.cell? ⟨b, i, none⟩ = W.cell? ⟨b, i, none⟩ :=
  World.cell?_of_block (a := ⟨b, i, none⟩) (grown_block hg hb hne)
theorem grown_free {W w3 : World} {o : Obj} {row : Option Nat} (hg : (W.alloc o).drew.grownBy w3 row) {b i : Nat} (hb : b < W.heap.size) (hne : some b ≠ row) : w3.frozen? ⟨b, i, none⟩ = W.frozen? ⟨b, i, none⟩ :=
  World.frozen?_of_block (a := ⟨b, i, none⟩) (grown_block hg hb hne)

set_option maxRecDepth 100000 in
set_option maxHeartbeats 3200000 in
theorem cover_any (w : World) (base P CV SL NR HB : Nat) (hv ov : Value) (dims : Int) (n1 n2 : Nat) (H : Nat → Int) (LV : Nat → Value) (ls : Nat → List Int) (S : Nat → Int) (c : Int) (x v : Nat)
    (h : Cube w base P CV SL NR HB hv ov dims n1 n2 H LV ls S c) (hx : x < n1) (hv2 : v < n2) (hvx : (v : Int) = H x) (hm : (ls v).length ≤ 1048576) (hn1 : n1 ≤ 1048576) (hn2 : n2 ≤ 1048576) (hc0 : 0 ≤ c) (hc1 : c ≤ 1048576) :
    Calls Try.prog 31 #[.pointer (some ⟨P, 0, none⟩), .int .i32 v, .int .i32 x] w fun e w' => e = .returned (.tuple #[]) ∧
      ∃ LV', Cube w' base P CV SL NR HB hv ov dims n1 n2 H LV' (fun i => if i = v then ls v ++ [(x : Int)] else ls i) (fun i => if i = x then ((ls v).length : Int) else S i) (c + 1) ∧ Kept base HB P CV SL w w' := by
  have hn : n1 ≠ 0 := by omega
  obtain ⟨e1, e2, e3, e4, e5, e6⟩ := h.hb hn
  have HC : Hid (Cube w base P CV SL NR HB hv ov dims n1 n2 H LV ls S c) := h
  have HVX : Hid ((v : Int) = H x) := hvx
  have g1 : w.cell? ⟨P, 1, none⟩ = some (.slice (some ⟨HB, 0, none⟩) n1 n1) := by rw [h.cell (i := 1) (v := hv) rfl, e1]
  have g2 : w.cell? ⟨HB, x, none⟩ = some (.int .i32 (H x)) := e2.cell hx
  have g3 : w.frozen? ⟨HB, x, none⟩ = false := e2.frozen x
  have hxz : (x : Int) < (n1 : Int) := by omega
  have hx0 : (0 : Int) ≤ (x : Int) := by omega
  have hvz : (v : Int) < (n2 : Int) := by omega
  have hv0 : (0 : Int) ≤ (v : Int) := by omega
  clear h e1 e2 hvx
  go_enter Try.func31, Try.ntmps31
  go_wp2
  have HC1 := HC.out.setHolder hn (x := x) HVX.out
  have HB1 : Kept base HB P CV SL w (w.setCell ⟨HB, x, none⟩ (.int .i32 (v : Int))) := (Kept.refl base HB P CV SL w).set (p := ⟨HB, x, none⟩) (Nat.le_refl HB) (.inl rfl) _
  clear g1 g2 g3 HC
  generalize w.setCell ⟨HB, x, none⟩ (.int .i32 (v : Int)) = W1 at HC1 HB1 ⊢
  obtain ⟨ao, cp, hform⟩ := own_form (HC1.own v hv2)
  obtain ⟨m, hmm⟩ : ∃ m, m = (ls v).length := ⟨_, rfl⟩
  rw [← hmm] at hform hm
  have HM : Hid (m = (ls v).length) := hmm
  have HF : Hid (LV v = .slice ao m cp) := hform
  have g3 : W1.cell? ⟨P, 3, none⟩ = some (.slice (some ⟨CV, 0, none⟩) n2 n2) := HC1.cell (i := 3) rfl
  have g4 : W1.cell? ⟨P, 4, none⟩ = some (.slice (some ⟨SL, 0, none⟩) n1 n1) := HC1.cell (i := 4) rfl
  have g5 : W1.cell? ⟨CV, v, none⟩ = some (.slice ao m cp) := by rw [HC1.cv.cell hv2, hform]
  have g6 : W1.cell? ⟨SL, x, none⟩ = some (.int .i32 (S x)) := HC1.sl.cell hx
  have g7 : W1.frozen? ⟨SL, x, none⟩ = false := HC1.sl.frozen x
  obtain ⟨l1, l2, l3, l4, l5⟩ := HC1.lt
  obtain ⟨a1, a2, a3, a4, a5, a6⟩ := HC1.ne
  have b1 : ¬ SL = P := fun e => a2 e.symm
  have b2 : ¬ SL = CV := fun e => a4 e.symm
  have b3 : ¬ CV = P := fun e => a1 e.symm
  have HC1' := hide HC1
  have HB1' := hide HB1
  clear HC1 HB1 hmm hform
  go_region_held3 (fun w' => w'.cell? ⟨P, 3, none⟩ = some (.slice (some ⟨CV, 0, none⟩) n2 n2) ∧ w'.cell? ⟨P, 4, none⟩ = some (.slice (some ⟨SL, 0, none⟩) n1 n1) ∧ w'.cell? ⟨CV, v, none⟩ = some (.slice ao m cp)) (go_keep) (fail)
  have hwr : IntKind.i32.wrap (m : Int) = (m : Int) := wraps_i32 _ (by omega) (by omega)
  have HC2 := (HC1'.out.setSlot x (IntKind.i32.wrap (m : Int))).drew
  have HB2 : Kept base HB P CV SL w (W1.setCell ⟨SL, x, none⟩ (.int .i32 (IntKind.i32.wrap (m : Int)))).drew := (HB1'.out.set (p := ⟨SL, x, none⟩) (Nat.le_of_lt e5) (.inr (.inr (.inr rfl))) _).drew
  have HWR : Hid (IntKind.i32.wrap (m : Int) = (m : Int)) := hwr
  clear hwr g3 g4 g5 g6 g7 HC1' HB1'
  go_wp2
  generalize (W1.setCell ⟨SL, x, none⟩ (.int .i32 (IntKind.i32.wrap (m : Int)))).drew = W2 at HC2 HB2 ⊢
  rw [HWR.out] at HC2
  have g3 : W2.cell? ⟨P, 3, none⟩ = some (.slice (some ⟨CV, 0, none⟩) n2 n2) := HC2.cell (i := 3) rfl
  have g5 : W2.cell? ⟨CV, v, none⟩ = some (.slice ao m cp) := by rw [HC2.cv.cell hv2, HF.out]
  have g7 : W2.frozen? ⟨CV, v, none⟩ = false := HC2.cv.frozen v
  have hown : W2.ownsRow base 21 1 (.slice ao m cp) m ((ls v).map (.int .i32)) := by have := HC2.own v hv2; rw [HF.out, ← HM.out] at this; exact this
  have HOWN := hide hown
  have HC2' := hide HC2
  have HB2' := hide HB2
  have hsz : base ≤ W2.heap.size := HC2.lt.2.2.2.2
  obtain ⟨i0, hi, hz0, hz1, hz2⟩ := info_parts Try.info21
  have HI : Hid (Try.prog.info? 21 = some i0 ∧ i0.zero = some (.int .i32 0) ∧ i0.size = 1 ∧ i0.bytes = 4) := ⟨hi, hz0, hz1, hz2⟩
  clear hi hz0 hz1 hz2 HC2 HB2 hown
  have hCVl : CV < W2.heap.size := by omega
  have hPl : P < W2.heap.size := by omega
  have hneC : some CV ≠ (Value.slice ao m cp).ownBlock := fun e => by have := (HOWN.out.lt CV e.symm).1; omega
  have hneP : some P ≠ (Value.slice ao m cp).ownBlock := fun e => by have := (HOWN.out.lt P e.symm).1; omega
  go_region_law ((refine step_append_lies _ (by rfl) _ _ _ (by rfl) base 21 i0 _ 1 4 Try.underlying22 HI.out.1 HI.out.2.1 HI.out.2.2.1 HI.out.2.2.2 rfl (by omega) (.slice ao m cp) m ((ls v).map (.int .i32)) (by rfl) ((HOWN.out.alloc _).drew) ⟨W2.heap.size, 0, none⟩ 1 1 [.int .i32 x] (by rfl) (by rfl) (World.news_of_block (cs := #[.int .i32 x]) (t := 21) (fr := (0, 0)) (heap_alloc_new W2 _)) (by simp [Value.oneCell']) (by omega) (by unfold maxLen; omega) (by omega) (by simp; omega) (W2.heap.size + 1) (by simp) ?_; intro g cap w3 hown3 hgrow3 hat3 hlt3; have q1 := (grown_cell (i := v) hgrow3 hCVl hneC).trans g5; have q2 := (grown_free (i := v) hgrow3 hCVl hneC).trans g7; have q3 := (grown_cell (i := 3) hgrow3 hPl hneP).trans g3))
  all_goals
    obtain ⟨LV', HC3⟩ := HC2'.out.pushed hv2 HM.out HF.out hown3 hgrow3 hat3
    have HB3 := HC2'.out.pushedKept (v := v) (Nat.le_of_lt e4) HB2'.out (.slice (some ⟨g, 0, none⟩) (m + 1) cap) hv2 HF.out hgrow3
    clear q1 q2 q3 hown3 hgrow3 hat3 hlt3
    generalize w3.setCell ⟨CV, v, none⟩ (.slice (some ⟨g, 0, none⟩) (m + 1) cap) = W3 at HC3 HB3 ⊢
    have g8 : W3.cell? ⟨P, 5, none⟩ = some (.int .i64 c) := HC3.cell (i := 5) rfl
    have g9 : W3.frozen? ⟨P, 5, none⟩ = false := HC3.free 5
    have HC4 := hide (HC3.setCount (c + 1))
    have HB4 := hide (HB3.set (p := ⟨P, 5, none⟩) (Nat.le_of_lt e3) (.inr (.inl rfl)) (.int .i64 (c + 1)))
    clear HC3 HB3
    go_wp2
    go_end0
    exact ⟨rfl, LV', by rw [← HM.out]; exact HC4.out, HB4.out⟩
end Go.Proofs.Qxb6603178a
