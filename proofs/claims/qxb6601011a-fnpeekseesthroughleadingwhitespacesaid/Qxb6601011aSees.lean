/-
  Seat b6601011a: the walk of 'FnPeekSeesThroughLeadingWhitespace' (function 8).
-/
import Derived.Test.Qxb6601011aPeek
namespace Go.Proofs.Qxb6601011a
open Go.RowKit
set_option linter.unusedVariables false

theorem zz20_yes (a b : Option Addr) (n1 c1 n2 c2 : Nat) (w : World) (hn : n1 + n2 ≤ 1048576) :
    Calls Try.prog 20 #[.slice a n1 c1, .slice b n2 c2] w fun e w' => e = .returned (.bool true) ∧ w' = w := by
  go_enter Try.func20, Try.ntmps20
  go_wp2
  go_ret
  exact ⟨rfl, rfl⟩
theorem zz20_no (a b : Option Addr) (n1 c1 n2 c2 : Nat) (w : World) (hn : 1048576 < n1 + n2) :
    Calls Try.prog 20 #[.slice a n1 c1, .slice b n2 c2] w fun e w' => e = .returned (.bool false) ∧ w' = w := by
  by_cases h1 : 1048576 < n1
  · go_enter Try.func20, Try.ntmps20
    go_wp2
    go_ret
    exact ⟨rfl, rfl⟩
  by_cases h2 : 1048576 < n2
  · go_enter Try.func20, Try.ntmps20
    go_wp2
    go_ret
    exact ⟨rfl, rfl⟩
  go_enter Try.func20, Try.ntmps20
  go_wp2
  go_ret
  exact ⟨rfl, rfl⟩

theorem law8_big (a b : Option Addr) (n1 c1 n2 c2 : Nat) (w : World) (hn : 1048576 < n1 + n2) :
    Calls Try.prog 8 #[.slice a n1 c1, .slice b n2 c2] w fun e w' => e = .returned (.bool true) ∧ Below w.heap.size w w' := by
  go_enter Try.func8, Try.ntmps8
  go_wp2_with fail
  refine (zz20_no a b n1 c1 n2 c2 w hn).mono ?_
  rintro e w' ⟨rfl, rfl⟩
  go_wp2
  go_ret
  exact ⟨rfl, Below.refl _ _⟩

theorem skip_app : ∀ (s t : List Int), (∀ i, i < s.length → sp (s.getD i 0) = true) → skip (s ++ t) 0 = s.length + skip t 0 := by
  intro s t h
  have : (s ++ t).takeWhile sp = s ++ t.takeWhile sp := by
    apply List.takeWhile_append_of_pos
    intro x hx
    obtain ⟨i, hi, rfl⟩ := List.getElem_of_mem hx
    have := h i hi
    simpa [List.getElem?_eq_getElem hi] using this
  simp [skip, this]
theorem getD_app (s t : List Int) (i : Nat) : (s ++ t).getD (s.length + i) 0 = t.getD i 0 := by
  simp [List.getElem?_append_right]

theorem step_app {pre l : List Int} {k p B : Nat} {v : Value} {w : World} (hk : k < l.length) (hown : w.ownsRow B 5 1 v (p + k + 1) (pre.map (.int .u8) ++ ((l.map (.int .u8)).take k ++ [.int .u8 (l[k]?.getD 0)]))) :
    w.ownsRow B 5 1 v (p + (k + 1)) ((pre ++ l.take (k + 1)).map (.int .u8)) := by
  have e : l.take (k + 1) = l.take k ++ [l.getD k 0] := by
    rw [List.take_succ_eq_append_getElem hk]; simp [List.getElem?_eq_getElem hk]
  rw [e, ← Nat.add_assoc]
  simpa using hown
theorem step_one {l : List Int} {k B : Nat} {v : Value} {w : World} (hk : k < l.length) (hown : w.ownsRow B 5 1 v (k + 1) ((l.map (.int .u8)).take k ++ [.int .u8 (l[k]?.getD 0)])) :
    w.ownsRow B 5 1 v (k + 1) ((l.take (k + 1)).map (.int .u8)) := by
  have e : l.take (k + 1) = l.take k ++ [l.getD k 0] := by
    rw [List.take_succ_eq_append_getElem hk]; simp [List.getElem?_eq_getElem hk]
  rw [e]
  simpa using hown
theorem own_has {l : List Int} {n B cap : Nat} {w : World} (hk : l.length = n) (hown : w.ownsRow B 5 1 (.slice (some ⟨B, 0, none⟩) n cap) n (l.map (.int .u8))) :
    Has .u8 w (some ⟨B, 0, none⟩) l := by
  refine .inr ⟨B, 0, rfl, fun i hi => ?_⟩
  rw [Nat.zero_add, hown.cellAt i (by omega), List.getElem?_map, List.getElem?_eq_getElem hi]; simp [List.getElem?_eq_getElem hi]

set_option maxHeartbeats 2000000 in
theorem law8_small (a b : Option Addr) (n1 c1 n2 c2 : Nat) (l1 l2 : List Int) (w : World) (hl1 : l1.length = n1) (hl2 : l2.length = n2) (hn : n1 + n2 ≤ 1048576) (hnil1 : a = none → n1 = 0 ∧ c1 = 0) (hnil2 : b = none → n2 = 0 ∧ c2 = 0) (h1 : Has .u8 w a l1) (h2 : Has .u8 w b l2) :
    Calls Try.prog 8 #[.slice a n1 c1, .slice b n2 c2] w fun e w' => e = .returned (.bool true) ∧ Below w.heap.size w w' := by
  have HL1 : Hid (l1.length = n1) := hl1
  have HL2 : Hid (l2.length = n2) := hl2
  have HN1 : Hid (a = none → n1 = 0 ∧ c1 = 0) := hnil1
  have HN2 : Hid (b = none → n2 = 0 ∧ c2 = 0) := hnil2
  have HH1 : Hid (Has .u8 w a l1) := h1
  have HH2 : Hid (Has .u8 w b l2) := h2
  clear hl1 hl2 hnil1 hnil2 h1 h2
  obtain ⟨i0, hi, hz0, hz1, hz2⟩ := info_parts Try.info5
  have HI : Hid (Try.prog.info? 5 = some i0 ∧ i0.zero = some (.int .u8 0) ∧ i0.size = 1 ∧ i0.bytes = 1) := ⟨hi, hz0, hz1, hz2⟩
  clear hi hz0 hz1 hz2
  have d1 : decide ((1048576 : Int) < (n1 : Int)) = false := by simp; omega
  have d2 : decide ((1048576 : Int) < (n2 : Int)) = false := by simp; omega
  have d3 : decide ((1048576 : Int) < (n1 : Int) + (n2 : Int)) = false := by simp; omega
  go_enter Try.func8, Try.ntmps8
  go_wp2_with fail
  refine (zz20_yes a b n1 c1 n2 c2 w hn).mono ?_
  rintro e w1 ⟨rfl, rfl⟩
  go_wp2
  go_loop [5] (fun i => ∃ k : Nat, k ≤ n1 ∧ i = .int .i64 k ∧ Hid (∀ i, i < k → sp (l1.getD i 0) = true)) (fun i => n1 - (intOf i).toNat)
  case atStart => exact ⟨0, Nat.zero_le _, rfl, fun i hi => absurd hi (Nat.not_lt_zero _)⟩
  case round =>
    obtain ⟨k, hk, rfl, HS⟩ := hrel
    by_cases hlt : k < n1
    · have hkz : (k : Int) < (n1 : Int) := by omega
      obtain ⟨b', off, hx, hc⟩ : ∃ b' off, a = some ⟨b', off, none⟩ ∧ w1.cell? ⟨b', off + k, none⟩ = some (.int .u8 (l1.getD k 0)) := by
        rcases HH1.out with h | ⟨b', off, ha, hc⟩
        · have := HL1.out; rw [h] at this; simp at this; omega
        · exact ⟨b', off, ha, hc k (by rw [HL1.out]; omega)⟩
      subst hx
      obtain ⟨c, hcc⟩ : ∃ c, c = l1.getD k 0 := ⟨_, rfl⟩
      rw [← hcc] at hc
      cases hs : sp c
      · clear hcc
        go_wp2_with (go_at_call 18; refine (space_any _ _).mono ?_; rintro e w' ⟨rfl, rfl⟩; rw [hs])
        go_ret
        exact ⟨rfl, Below.refl _ _⟩
      · have HS' : Hid (∀ i, i < k + 1 → sp (l1.getD i 0) = true) := by
          intro i hi
          by_cases e : i = k
          · subst e; rw [← hcc]; exact hs
          · exact HS.out i (by omega)
        clear hcc
        go_wp2_with (go_at_call 18; refine (space_any _ _).mono ?_; rintro e w' ⟨rfl, rfl⟩; rw [hs])
        go_round
        case rel => exact ⟨k + 1, by omega, by go_num, HS'.out⟩
        case measure => simp [intOf]; omega
    · obtain rfl : k = n1 := by omega
      clear hlt hk
      go_wp2_with fail
      refine (clone_any a k c1 l1 _ HL1.out (by omega) HN1.out HH1.out).mono ?_
      rintro e w2 ⟨a', c1', hc1', rfl, hh, hb⟩
      have HA1 : Hid (Has .u8 w2 a' l1) := hh
      have HB2 : Hid (Below w1.heap.size w1 w2) := hb
      have HH2' : Hid (Has .u8 w2 b l2) := HH2.out.below hb
      clear hh hb HH1 HN1 HH2
      go_wp2_with fail
      refine (clone_any b n2 c2 l2 _ HL2.out (by omega) HN2.out HH2'.out).mono ?_
      rintro e w3 ⟨b', c2', hc2', rfl, hh, hb⟩
      have HA2 : Hid (Has .u8 w3 b' l2) := hh
      have HA1' : Hid (Has .u8 w3 a' l1) := HA1.out.below hb
      have HB3 : Hid (Below w1.heap.size w1 w3) := HB2.out.trans (hb.mono HB2.out.size)
      clear hh hb HA1 HH2' HN2 HB2
      go_wp2_with (at_make; refine wpList_make_own _ rfl _ _ 22 rfl w3.heap.size 5 i0 (.int .u8 0) 1 Try.underlying22 HI.out.1 HI.out.2.1 HI.out.2.2.1 _ _ _ (k + n2) rfl rfl (by omega) (by rw [HI.out.2.2.2]; omega) (by unfold maxLen; omega) (Nat.le_refl _) ?_)
      intro w4 hown hgrow
      have HO : Hid (w4.ownsRow w3.heap.size 5 1 (.slice (some ⟨w3.heap.size, 0, none⟩) 0 (k + n2)) 0 []) := hown
      have HB4 : Hid (Below w3.heap.size w3 w4) := (Below.refl _ _).grown hgrow (Nat.le_refl _) (fun k hk => by cases hk)
      clear hown hgrow
      go_wp2
      go_loopw [6, 7] (fun v i wr => ∃ j : Nat, j ≤ k ∧ i = .int .i64 j ∧ v = .slice (some ⟨w3.heap.size, 0, none⟩) j (k + n2) ∧ Hid (wr.ownsRow w3.heap.size 5 1 (.slice (some ⟨w3.heap.size, 0, none⟩) j (k + n2)) j ((l1.take j).map (.int .u8))) ∧ Hid (Below w3.heap.size w3 wr)) (fun _ i _ => k - (intOf i).toNat)
      case atStart => exact ⟨0, Nat.zero_le _, rfl, rfl, HO.out, HB4.out⟩
      case round =>
        clear HO HB4
        obtain ⟨j, hj, rfl, rfl, HO, HB4⟩ := hrel
        by_cases hlt : j < k
        · have hkz : (j : Int) < (k : Int) := by omega
          obtain ⟨bb, off, hx, hc⟩ : ∃ bb off, a' = some ⟨bb, off, none⟩ ∧ wr.cell? ⟨bb, off + j, none⟩ = some (.int .u8 (l1.getD j 0)) := by
            rcases HA1'.out with h | ⟨bb, off, ha, hc⟩
            · have := HL1.out; rw [h] at this; simp at this; omega
            · have := hc j (by rw [HL1.out]; exact hlt)
              exact ⟨bb, off, ha, by rw [HB4.out.cell (p := ⟨bb, off + j, none⟩) (World.block_lt_of_cell? _ _ this)]; exact this⟩
          subst hx
          go_wp2_with (at_builtin; refine wpList_append_fits _ rfl _ _ 22 rfl w3.heap.size 5 i0 1 Try.underlying22 HI.out.1 HI.out.2.2.1 w3.heap.size _ (k + n2) _ rfl (HO.out.alloc _) ⟨wr.heap.size, 0, none⟩ 1 1 [.int .u8 _] rfl rfl (cell_one_new _ _ _) (ints_oneCell .u8 [_]) (by omega) ?_)
          intro w5 hown5 hgrow5
          have HO5 := hide hown5
          have HB5 : Hid (Below w3.heap.size w3 w5) := (HB4.out.alloc HB4.out.size _).grown hgrow5 (by have := HB4.out.size; simp; omega) (fun k hk => by cases hk; exact Nat.le_refl _)
          clear hown5 hgrow5
          go_wp2
          go_roundw
          case rel =>
            exact ⟨j + 1, by omega, by go_num, rfl, step_one (by rw [HL1.out]; exact hlt) HO5.out, HB5.out⟩
          case measure => simp [intOf]; omega
        · obtain rfl : j = k := by omega
          clear hlt hj
          go_wp2
          go_loopw [6, 8] (fun v i wr => ∃ i2 : Nat, i2 ≤ n2 ∧ i = .int .i64 i2 ∧ v = .slice (some ⟨w3.heap.size, 0, none⟩) (j + i2) (j + n2) ∧ Hid (wr.ownsRow w3.heap.size 5 1 (.slice (some ⟨w3.heap.size, 0, none⟩) (j + i2) (j + n2)) (j + i2) ((l1 ++ l2.take i2).map (.int .u8))) ∧ Hid (Below w3.heap.size w3 wr)) (fun _ i _ => n2 - (intOf i).toNat)
          case atStart => exact ⟨0, Nat.zero_le _, rfl, rfl, hide (by have := HO.out; rw [List.take_of_length_le (by rw [HL1.out]; exact Nat.le_refl _)] at this; simpa using this), HB4.out⟩
          case round =>
            clear HO HB4
            obtain ⟨i2, hj, rfl, rfl, HO, HB4⟩ := hrel
            by_cases hlt : i2 < n2
            · have hkz : (i2 : Int) < (n2 : Int) := by omega
              obtain ⟨bb, off, hx, hc⟩ : ∃ bb off, b' = some ⟨bb, off, none⟩ ∧ wr.cell? ⟨bb, off + i2, none⟩ = some (.int .u8 (l2.getD i2 0)) := by
                rcases HA2.out with h | ⟨bb, off, ha, hc⟩
                · have := HL2.out; rw [h] at this; simp at this; omega
                · have := hc i2 (by rw [HL2.out]; exact hlt)
                  exact ⟨bb, off, ha, by rw [HB4.out.cell (p := ⟨bb, off + i2, none⟩) (World.block_lt_of_cell? _ _ this)]; exact this⟩
              subst hx
              go_wp2_with (at_builtin; refine wpList_append_fits _ rfl _ _ 22 rfl w3.heap.size 5 i0 1 Try.underlying22 HI.out.1 HI.out.2.2.1 w3.heap.size _ (j + n2) _ rfl (HO.out.alloc _) ⟨wr.heap.size, 0, none⟩ 1 1 [.int .u8 _] rfl rfl (cell_one_new _ _ _) (ints_oneCell .u8 [_]) (by omega) ?_)
              intro w5 hown5 hgrow5
              have HO5 := hide hown5
              have HB5 : Hid (Below w3.heap.size w3 w5) := (HB4.out.alloc HB4.out.size _).grown hgrow5 (by have := HB4.out.size; simp; omega) (fun k hk => by cases hk; exact Nat.le_refl _)
              clear hown5 hgrow5
              go_wp2
              go_roundw
              case rel =>
                exact ⟨i2 + 1, by omega, by go_num, rfl, step_app (by rw [HL2.out]; exact hlt) HO5.out, HB5.out⟩
              case measure => simp [intOf]; omega
            · obtain rfl : i2 = n2 := by omega
              clear hlt hj
              have HJ : Hid (Has .u8 wr (some ⟨w3.heap.size, 0, none⟩) (l1 ++ l2)) := by
                have := HO.out
                rw [List.take_of_length_le (by rw [HL2.out]; exact Nat.le_refl _)] at this
                exact own_has (by rw [List.length_append, HL1.out, HL2.out]) this
              have HA2' : Hid (Has .u8 wr b' l2) := HA2.out.below HB4.out
              have HB5 : Hid (Below w1.heap.size w1 wr) := HB3.out.trans (HB4.out.mono HB3.out.size)
              clear HO HA2 HA1' HB3 HB4
              go_wp2_with fail
              refine (zzpeek_any b' i2 c2' 0 l2 _ HL2.out (by omega) HA2'.out (by omega)).mono ?_
              rintro e w6 ⟨rfl, hb⟩
              have HJ' : Hid (Has .u8 w6 (some ⟨w3.heap.size, 0, none⟩) (l1 ++ l2)) := HJ.out.below hb
              have HB6 : Hid (Below w1.heap.size w1 w6) := HB5.out.trans (hb.mono HB5.out.size)
              clear hb HJ HA2'
              obtain ⟨S, hS⟩ : ∃ S, S = skip l2 0 := ⟨_, rfl⟩
              have hS2 : S ≤ 1048576 := by
                have := (List.takeWhile_sublist sp (l := l2.drop 0)).length_le
                rw [hS]; unfold skip; rw [List.length_drop, HL2.out] at this; omega
              obtain ⟨C, hC⟩ : ∃ C, C = l2.getD S 0 := ⟨_, rfl⟩
              rw [← hS, ← hC]
              have HS : Hid (skip (l1 ++ l2) 0 = j + S) := by
                show skip (l1 ++ l2) 0 = j + S
                rw [skip_app l1 l2 (by rw [HL1.out]; exact HS.out), HL1.out, hS]
              have HC : Hid ((l1 ++ l2).getD (j + S) 0 = C) := by
                show (l1 ++ l2).getD (j + S) 0 = C
                rw [hC, ← HL1.out]; exact getD_app _ _ _
              clear hS hC
              go_wp2_with fail
              refine (zzpeek_any (some ⟨w3.heap.size, 0, none⟩) (j + i2) (j + i2) 0 (l1 ++ l2) _ (by rw [List.length_append, HL1.out, HL2.out]) (by omega) HJ'.out (by omega)).mono ?_
              rintro e w7 ⟨rfl, hb⟩
              have HB7 : Hid (Below w1.heap.size w1 w7) := HB6.out.trans (hb.mono HB6.out.size)
              clear hb HJ' HB6
              rw [HS.out, HC.out]
              go_wp2
              go_ret
              exact ⟨ret_bool (by simp; omega), HB7.out⟩

theorem law8 (a b : Option Addr) (n1 c1 n2 c2 : Nat) (l1 l2 : List Int) (w : World) (hl1 : l1.length = n1) (hl2 : l2.length = n2) (hnil1 : a = none → n1 = 0 ∧ c1 = 0) (hnil2 : b = none → n2 = 0 ∧ c2 = 0) (h1 : Has .u8 w a l1) (h2 : Has .u8 w b l2) :
    Calls Try.prog 8 #[.slice a n1 c1, .slice b n2 c2] w fun e w' => e = .returned (.bool true) ∧ Below w.heap.size w w' := by
  by_cases hn : n1 + n2 ≤ 1048576
  · exact law8_small a b n1 c1 n2 c2 l1 l2 w hl1 hl2 hn hnil1 hnil2 h1 h2
  · exact law8_big a b n1 c1 n2 c2 w (by omega)
end Go.Proofs.Qxb6601011a
