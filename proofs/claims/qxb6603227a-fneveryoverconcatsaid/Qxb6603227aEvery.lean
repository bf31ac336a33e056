/-
  Seat b6603227a: 'every' (15), 'ZZevery' (12), 'zzBytes_..' (11), and the walk of 'FnEveryOverConcat' (function 5).
-/
import Derived.Test.Qxb6603227aRows
import Derived.WalkKit
import Derived.WalkSpells
import Derived.Deep.QuietTactic
import Derived.BigQuiet
import Derived.OpenShut
namespace Go.Proofs.Qxb6603227a
open Go.RowKit
set_option linter.unusedVariables false

theorem hide {p : Prop} (h : p) : Hid p := h
theorem ret_bool {a b : Bool} (h : a = b) : Ending.returned (.bool a) = .returned (.bool b) := by rw [h]
theorem Below.drewN {B : Nat} {a w : World} (h : Below B a w) (n : Nat) : Below B a (w.drewN n) := ⟨h.os, h.tape, h.output, h.size, h.block⟩

/-- Is each byte of s in the set? -/
def evry (B : Nat → Bool) (s : ByteArray) : Bool := s.data.toList.all (fun c => B c.toNat)

/-- Block g holds the set. -/
def Set1 (w : World) (g : Nat) (B : Nat → Bool) : Prop := ∀ i, i < 256 → w.cell? ⟨g, i, none⟩ = some (.bool (B i))

theorem evry_upto (B : Nat → Bool) (s : ByteArray) (h : ∀ i (hi : i < s.size), B (s[i]).toNat = true) : evry B s = true := by
  unfold evry
  rw [List.all_eq_true]
  intro c hc
  obtain ⟨i, hi, rfl⟩ := List.getElem_of_mem hc
  exact h i (by simpa using hi)
theorem evry_at (B : Nat → Bool) (s : ByteArray) (i : Nat) (hi : i < s.size) (h : B (s[i]).toNat = false) : evry B s = false := by
  unfold evry
  rw [List.all_eq_false]
  exact ⟨s[i], by simp [ByteArray.getElem_eq_getElem_data], by simp [h]⟩

set_option maxHeartbeats 1000000 in
theorem every_any (s : ByteArray) (g : Nat) (B : Nat → Bool) (w : World) (hs : s.size ≤ 4194304) (h : Set1 w g B) :
    Calls Try.prog 15 #[.string s, .pointer (some ⟨g, 0, none⟩)] w fun e w' => e = .returned (.bool (evry B s)) ∧ ∃ q, w' = w.drewN q := by
  have HH := hide h
  clear h
  go_enter Try.func15, Try.ntmps15
  go_wp2
  go_loopw [8] (fun i wr => ∃ k : Nat, k ≤ s.size ∧ i = .int .i64 k ∧ Hid (∀ j (hj : j < s.size), j < k → B (s[j]).toNat = true) ∧ Hid (∃ q, wr = w.drewN q)) (fun i _ => s.size - (intOf i).toNat)
  case atStart => exact ⟨0, Nat.zero_le _, rfl, fun j _ hj => absurd hj (Nat.not_lt_zero _), 0, rfl⟩
  case round =>
    obtain ⟨k, hk, rfl, HU, HQ⟩ := hrel
    by_cases hlt : k < s.size
    · have hkz : (k : Int) < (s.size : Int) := by omega
      have hc256 : (s[k]).toNat < 256 := UInt8.toNat_lt _
      have g1 : wr.cell? ⟨g, (s[k]).toNat, none⟩ = some (.bool (B (s[k]).toNat)) := by obtain ⟨q, hq⟩ := HQ.out; rw [hq]; exact HH.out _ hc256
      have g2 : ((s[k]).toNat : Int) < 256 := by omega
      cases hb : B (s[k]).toNat
      · rw [hb] at g1
        have HB := hide hb
        clear hb
        go_wp2
        go_quiet (fail)
        go_wp2
        go_ret
        refine ⟨ret_bool (evry_at B s k hlt HB.out).symm, ?_⟩
        obtain ⟨q, hq⟩ := HQ.out
        exact ⟨_, by rw [hq, World.drewN_drewN]⟩
      · rw [hb] at g1
        have HB := hide hb
        clear hb
        go_wp2
        go_quiet (fail)
        go_wp2
        go_roundw
        case rel =>
          refine ⟨k + 1, by omega, by go_num, fun j hj h1 => ?_, ?_⟩
          · by_cases e : j = k
            · subst e; exact HB.out
            · exact HU.out j hj (by omega)
          · obtain ⟨q, hq⟩ := HQ.out
            exact ⟨_, by rw [hq, World.drewN_drewN]⟩
        case measure => simp [intOf]; omega
    · obtain rfl : k = s.size := by omega
      go_wp2
      go_ret
      exact ⟨ret_bool (evry_upto B s (fun i hi => HU.out i hi hi)).symm, HQ.out⟩

theorem zzevery_any (s : ByteArray) (g : Nat) (B : Nat → Bool) (w : World) (hs : s.size ≤ 4194304) (h : Set1 w g B) :
    Calls Try.prog 12 #[.string s, .pointer (some ⟨g, 0, none⟩)] w fun e w' => e = .returned (.bool (evry B s)) ∧ ∃ q, w' = w.drewN q := by
  have HF := hide (every_any s g B w hs h)
  clear h
  go_enter Try.func12, Try.ntmps12
  go_wp2_with fail
  refine HF.out.mono ?_
  rintro e w' ⟨rfl, hq⟩
  have HQ := hide hq
  clear hq HF
  go_wp2
  go_ret
  exact ⟨rfl, HQ.out⟩

theorem zz11_yes (s t : ByteArray) (cs : Array Value) (w : World) (hn : s.size + t.size ≤ 1048576) :
    Calls Try.prog 11 #[.string s, .string t, .agg cs] w fun e w' => e = .returned (.bool true) ∧ Below w.heap.size w w' := by
  go_enter Try.func11, Try.ntmps11
  go_wp2
  go_ret
  exact ⟨rfl, (Below.refl _ _).alloc (Nat.le_refl _) _⟩
theorem zz11_no (s t : ByteArray) (cs : Array Value) (w : World) (hn : 1048576 < s.size + t.size) (hs : s.size ≤ 9223372036854775807) (ht : t.size ≤ 9223372036854775807) :
    Calls Try.prog 11 #[.string s, .string t, .agg cs] w fun e w' => e = .returned (.bool false) ∧ Below w.heap.size w w' := by
  by_cases h1 : 1048576 < s.size
  · go_enter Try.func11, Try.ntmps11
    go_wp2
    go_ret
    exact ⟨rfl, (Below.refl _ _).alloc (Nat.le_refl _) _⟩
  by_cases h2 : 1048576 < t.size
  · go_enter Try.func11, Try.ntmps11
    go_wp2
    go_ret
    exact ⟨rfl, (Below.refl _ _).alloc (Nat.le_refl _) _⟩
  go_enter Try.func11, Try.ntmps11
  go_wp2
  go_ret
  exact ⟨rfl, (Below.refl _ _).alloc (Nat.le_refl _) _⟩

theorem Try.size26 : (Try.prog.info? 26).map (·.size) = some 256 := by kernel_rfl

set_option maxRecDepth 100000 in
theorem law5_big (s t : ByteArray) (cs : Array Value) (w : World) (hn : 1048576 < s.size + t.size) (hs : s.size ≤ 9223372036854775807) (ht : t.size ≤ 9223372036854775807) (hcs : cs.size = 256) :
    Calls Try.prog 5 #[.string s, .string t, .agg cs] w fun e w' => e = .returned (.bool true) ∧ Below w.heap.size w w' := by
  have hi : (Try.prog.info? 26).map (·.size) = some cs.size := by rw [hcs]; exact Try.size26
  have hg : (w.alloc (.cells cs 26)).heap[w.heap.size]? = some (.cells cs 26 (0, 0)) := heap_alloc_new w _
  have HI := hide hi
  have HG := hide hg
  clear hi hg
  go_enter Try.func5, Try.ntmps5
  go_wp2_with (refine wpList_load_row rfl 26 _ rfl w.heap.size rfl 26 cs (0, 0) _ HG.out Try.underlying26 rfl HI.out ?_)
  refine (zz11_no s t cs _ hn hs ht).mono ?_
  rintro e w2 ⟨rfl, hb⟩
  have HB : Hid (Below w.heap.size w w2) := ((Below.refl _ w).alloc (Nat.le_refl _) (.cells cs 26)).trans (hb.mono (by simp))
  clear hb
  go_wp2
  go_ret
  exact ⟨rfl, HB.out⟩

theorem evry_nil (B : Nat → Bool) : evry B ⟨#[]⟩ = true := rfl
theorem evry_app (B : Nat → Bool) (s t : ByteArray) : evry B (s ++ t) = (evry B s && evry B t) := by
  unfold evry
  simp
theorem Set1.of_block {w : World} {g : Nat} {cs : Array Value} {B : Nat → Bool} (h : w.heap[g]? = some (.cells cs 26 (0, 0))) (hB : ∀ i, i < 256 → cs[i]? = some (.bool (B i))) : Set1 w g B := fun i hi => by
  rw [cell_of_row w g i cs 26 (0, 0) h]; exact hB i hi
theorem Set1.below {w w' : World} {g : Nat} {B : Nat → Bool} (h : Set1 w g B) (hb : Below w.heap.size w w') : Set1 w' g B := fun i hi => by
  rw [hb.cell (p := ⟨g, i, none⟩) (World.block_lt_of_cell? _ _ (h i hi))]; exact h i hi
theorem Set1.drewN {w : World} {g : Nat} {B : Nat → Bool} (h : Set1 w g B) (q : Nat) : Set1 (w.drewN q) g B := h

set_option maxRecDepth 100000 in
set_option maxHeartbeats 1000000 in
theorem law5_small (s t : ByteArray) (cs : Array Value) (B : Nat → Bool) (w : World) (hn : s.size + t.size ≤ 1048576) (hcs : cs.size = 256) (hB : ∀ i, i < 256 → cs[i]? = some (.bool (B i))) :
    Calls Try.prog 5 #[.string s, .string t, .agg cs] w fun e w' => e = .returned (.bool true) ∧ Below w.heap.size w w' := by
  have hi : (Try.prog.info? 26).map (·.size) = some cs.size := by rw [hcs]; exact Try.size26
  have hg : (w.alloc (.cells cs 26)).heap[w.heap.size]? = some (.cells cs 26 (0, 0)) := heap_alloc_new w _
  have HI := hide hi
  have HG := hide hg
  have HS := hide (Set1.of_block hg hB)
  clear hi hg hB
  have d1 : decide ((1048576 : Int) < (s.size : Int)) = false := by simp; omega
  have d2 : decide ((1048576 : Int) < (t.size : Int)) = false := by simp; omega
  have d3 : decide ((1048576 : Int) < (s.size : Int) + (t.size : Int)) = false := by simp; omega
  go_enter Try.func5, Try.ntmps5
  go_wp2_with (refine wpList_load_row rfl 26 _ rfl w.heap.size rfl 26 cs (0, 0) _ HG.out Try.underlying26 rfl HI.out ?_)
  refine (zz11_yes s t cs _ hn).mono ?_
  rintro e w2 ⟨rfl, hb⟩
  have HS2 := hide (HS.out.below hb)
  have B2 : Hid (Below w.heap.size w w2) := ((Below.refl _ w).alloc (Nat.le_refl _) (.cells cs 26)).trans (hb.mono (by simp))
  clear hb HS HG HI
  go_wp2_with fail
  refine (zzevery_any ⟨#[]⟩ w.heap.size B w2 (Nat.zero_le _) HS2.out).mono ?_
  rintro e w3 ⟨rfl, q, hq⟩
  have HS3 : Hid (Set1 w3 w.heap.size B) := by rw [hq]; exact HS2.out.drewN q
  have B3 : Hid (Below w.heap.size w w3) := by rw [hq]; exact Below.drewN B2.out q
  clear hq HS2 B2
  rw [evry_nil]
  go_wp2_with fail
  refine (zzevery_any (s ++ t) w.heap.size B w3 (by rw [ByteArray.size_append]; omega) HS3.out).mono ?_
  rintro e w4 ⟨rfl, q, hq⟩
  have HS4 : Hid (Set1 w4 w.heap.size B) := by rw [hq]; exact HS3.out.drewN q
  have B4 : Hid (Below w.heap.size w w4) := by rw [hq]; exact Below.drewN B3.out q
  clear hq HS3 B3
  rw [evry_app]
  obtain ⟨x, hx⟩ : ∃ x, x = evry B s := ⟨_, rfl⟩
  obtain ⟨y, hy⟩ : ∃ y, y = evry B t := ⟨_, rfl⟩
  rw [← hx, ← hy]
  have HX := hide hx
  have HY := hide hy
  clear hx hy
  go_wp2_with fail
  refine (zzevery_any s w.heap.size B w4 (by omega) HS4.out).mono ?_
  rintro e w5 ⟨rfl, q, hq⟩
  have HS5 : Hid (Set1 w5 w.heap.size B) := by rw [hq]; exact HS4.out.drewN q
  have B5 : Hid (Below w.heap.size w w5) := by rw [hq]; exact Below.drewN B4.out q
  clear hq HS4 B4
  rw [← HX.out]
  cases x
  · go_wp2
    go_ret
    exact ⟨ret_bool (by simp), B5.out⟩
  · go_wp2_with fail
    refine (zzevery_any t w.heap.size B w5 (by omega) HS5.out).mono ?_
    rintro e w6 ⟨rfl, q, hq⟩
    have B6 : Hid (Below w.heap.size w w6) := by rw [hq]; exact Below.drewN B5.out q
    clear hq HS5 B5
    rw [← HY.out]
    cases y
    · go_wp2
      go_ret
      exact ⟨ret_bool (by simp), B6.out⟩
    · go_wp2
      go_ret
      exact ⟨ret_bool (by simp), B6.out⟩

theorem law5 (s t : ByteArray) (cs : Array Value) (B : Nat → Bool) (w : World) (hs : s.size ≤ 9223372036854775807) (ht : t.size ≤ 9223372036854775807) (hcs : cs.size = 256) (hB : ∀ i, i < 256 → cs[i]? = some (.bool (B i))) :
    Calls Try.prog 5 #[.string s, .string t, .agg cs] w fun e w' => e = .returned (.bool true) ∧ Below w.heap.size w w' := by
  by_cases hn : s.size + t.size ≤ 1048576
  · exact law5_small s t cs B w hn hcs hB
  · exact law5_big s t cs w (by omega) hs ht hcs
end Go.Proofs.Qxb6603227a
