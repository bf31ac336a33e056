/-
  Seat b6603178a: the walk of 'FnFromHoldersBuildsCoverLists' (function 3).
-/
import Derived.Test.Qxb6603178aFrom
namespace Go.Proofs.Qxb6603178a
open Go.RowKit
set_option linter.unusedVariables false

theorem Try.info3 : (Try.prog.info? 3).map (fun i => (i.zero, i.size, i.bytes)) = some (some (.int .i64 0), 1, 8) := by kernel_rfl

theorem zz8_yes (dims : Int) (a b : Option Addr) (n1 c1 n2 c2 : Nat) (w : World) (hn : n1 + n2 ≤ 1048576) :
    Calls Try.prog 8 #[.int .i64 dims, .slice a n1 c1, .slice b n2 c2] w fun e w' => e = .returned (.bool true) ∧ w' = w := by
  go_enter Try.func8, Try.ntmps8
  go_wp2
  go_ret
  exact ⟨rfl, rfl⟩
theorem zz8_no (dims : Int) (a b : Option Addr) (n1 c1 n2 c2 : Nat) (w : World) (hn : 1048576 < n1 + n2) :
    Calls Try.prog 8 #[.int .i64 dims, .slice a n1 c1, .slice b n2 c2] w fun e w' => e = .returned (.bool false) ∧ w' = w := by
  by_cases h1 : 1048576 < n1
  · go_enter Try.func8, Try.ntmps8
    go_wp2
    go_ret
    exact ⟨rfl, rfl⟩
  by_cases h2 : 1048576 < n2
  · go_enter Try.func8, Try.ntmps8
    go_wp2
    go_ret
    exact ⟨rfl, rfl⟩
  go_enter Try.func8, Try.ntmps8
  go_wp2
  go_ret
  exact ⟨rfl, rfl⟩

set_option maxRecDepth 100000 in
set_option maxHeartbeats 1000000 in
theorem builds_big (dims : Int) (a b : Option Addr) (n1 c1 n2 c2 : Nat) (w : World) (hn : 262144 < n1 + n2) :
    Calls Try.prog 3 #[.int .i64 dims, .slice a n1 c1, .slice b n2 c2] w fun e w' => e = .returned (.bool true) ∧ Below w.heap.size w w' := by
  by_cases h1 : 1048576 < n1 + n2
  · go_enter Try.func3, Try.ntmps3
    go_wp2_with fail
    refine (zz8_no dims a b n1 c1 n2 c2 w h1).mono ?_
    rintro e w' ⟨rfl, rfl⟩
    go_wp2
    go_ret
    exact ⟨rfl, Below.refl _ _⟩
  by_cases h2 : 262144 < n1
  · go_enter Try.func3, Try.ntmps3
    go_wp2_with fail
    refine (zz8_yes dims a b n1 c1 n2 c2 w (by omega)).mono ?_
    rintro e w' ⟨rfl, rfl⟩
    go_wp2
    go_ret
    exact ⟨rfl, Below.refl _ _⟩
  have d2 : decide ((262144 : Int) < (n1 : Int)) = false := by simp; omega
  by_cases h3 : 262144 < n2
  · go_enter Try.func3, Try.ntmps3
    go_wp2_with fail
    refine (zz8_yes dims a b n1 c1 n2 c2 w (by omega)).mono ?_
    rintro e w' ⟨rfl, rfl⟩
    go_wp2
    go_ret
    exact ⟨rfl, Below.refl _ _⟩
  have d3 : decide ((262144 : Int) < (n2 : Int)) = false := by simp; omega
  go_enter Try.func3, Try.ntmps3
  go_wp2_with fail
  refine (zz8_yes dims a b n1 c1 n2 c2 w (by omega)).mono ?_
  rintro e w' ⟨rfl, rfl⟩
  go_wp2
  go_ret
  exact ⟨rfl, Below.refl _ _⟩

theorem Below.grownBy {w w' : World} (hb : Below w.heap.size w w') : w.grownBy w' none := ⟨hb.os, hb.tape, hb.output, hb.size, fun k hk _ => hb.block k hk⟩
theorem rowIs_below {w w' : World} {b n : Nat} {t : TypeId} {f : Nat → Value} (h : w.rowIs b t n f) (hb : Below w.heap.size w w') : w'.rowIs b t n f := h.of_block (hb.block b h.lt)
theorem Cloned.below {w w' : World} {a : Option Addr} {B n c : Nat} {l : List Int} (h : Cloned w a B n c l) (hb : Below w.heap.size w w') : Cloned w' a B n c l := by
  rcases h with h | ⟨ha, hc, hr⟩
  · exact .inl h
  · exact .inr ⟨ha, hc, rowIs_below hr hb⟩
section
variable {w : World} {base P CV SL NR HB : Nat} {hv ov : Value} {dims : Int} {n1 n2 : Nat} {H : Nat → Int} {LV : Nat → Value} {ls : Nat → List Int} {S : Nat → Int} {c : Int}
theorem Cube.below (h : Cube w base P CV SL NR HB hv ov dims n1 n2 H LV ls S c) {w' : World} (hb : Below w.heap.size w w') : Cube w' base P CV SL NR HB hv ov dims n1 n2 H LV ls S c := by
  obtain ⟨l1, l2, l3, l4, l5⟩ := h.lt
  refine ⟨?_, rowIs_below h.cv hb, rowIs_below h.sl hb, rowIs_below h.nr hb, fun hn => ?_, fun v hv => (h.own v hv).kept (Below.grownBy hb) (by cases hv : (LV v).ownBlock with | none => exact .inl rfl | some k => exact .inr (by simp)), h.nil, h.apart, ⟨l1, l2, l3, l4, by have := hb.size; omega⟩, h.ne⟩
  · rw [hb.block P (by omega)]; exact h.pc
  · obtain ⟨e1, e2, e3, e4, e5, e6⟩ := h.hb hn
    exact ⟨e1, rowIs_below e2 hb, e3, e4, e5, e6⟩
/-- A list's cells. -/
theorem Cube.list (h : Cube w base P CV SL NR HB hv ov dims n1 n2 H LV ls S c) {v : Nat} (hv2 : v < n2) : ∃ ao cp, LV v = .slice ao (ls v).length cp ∧ Has .i32 w ao (ls v) ∧ (ls v = [] → ao = none) := by
  rcases (h.own v hv2).2 with ⟨h1, h2⟩ | ⟨g, cap, cur, h1, _⟩
  · exact ⟨none, 0, by rw [h1, h2], .inl (List.eq_nil_of_length_eq_zero h2), fun _ => rfl⟩
  · refine ⟨_, _, h1, .inr ⟨g, 0, rfl, fun i hi => ?_⟩, fun e => ?_⟩
    · have := h.own v hv2
      rw [h1] at this
      rw [Nat.zero_add, this.cellAt i (by omega), List.getElem?_map, List.getElem?_eq_getElem hi]
      simp [List.getElem?_eq_getElem hi]
    · have := h.nil v hv2 e
      rw [h1] at this
      simp at this
end

set_option maxRecDepth 100000 in
set_option maxHeartbeats 6400000 in
theorem builds_small (dims : Int) (a0 b0 : Option Addr) (n1 c0 n2 d0 : Nat) (H O : List Int) (w : World) (hlH : H.length = n1) (hlO : O.length = n2) (hn : n1 + n2 ≤ 262144) (hnil1 : a0 = none → n1 = 0 ∧ c0 = 0) (hnil2 : b0 = none → n2 = 0 ∧ d0 = 0)
    (hH32 : ∀ i, -2147483648 ≤ H.getD i 0 ∧ H.getD i 0 ≤ 2147483647) (hO32 : ∀ i, -2147483648 ≤ O.getD i 0 ∧ O.getD i 0 ≤ 2147483647) (h1 : Has .i32 w a0 H) (h2 : Has .i32 w b0 O) :
    Calls Try.prog 3 #[.int .i64 dims, .slice a0 n1 c0, .slice b0 n2 d0] w fun e w' => e = .returned (.bool true) ∧ Below w.heap.size w w' := by
  have HLH := hide hlH
  have HLO := hide hlO
  have HN1 := hide hnil1
  have HN2 := hide hnil2
  have HH32 := hide hH32
  have HO32 := hide hO32
  have HH := hide h1
  have HO := hide h2
  clear hlH hlO hnil1 hnil2 hH32 hO32 h1 h2
  have d1 : decide ((262144 : Int) < (n1 : Int)) = false := by simp; omega
  have d2 : decide ((262144 : Int) < (n2 : Int)) = false := by simp; omega
  have d3 : decide ((1048576 : Int) < 4 * ((n1 : Int) + (n2 : Int))) = false := by simp; omega
  have hm3 := run_make_row' (P := Try.prog) 32 3 (.int .i64 0) 8 Try.underlying32 Try.info3 rfl .i64 .i64 n2 (by omega) (by omega)
  have HM3 := hide hm3
  clear hm3
  go_enter Try.func3, Try.ntmps3
  go_wp2_with fail
  refine (zz8_yes dims a0 b0 n1 c0 n2 d0 w (by omega)).mono ?_
  rintro e w ⟨rfl, rfl⟩
  go_wp2_with fail
  refine (range_any a0 n1 c0 n2 H _ HLH.out (by omega) (by omega) (fun i _ => HH32.out i) HH.out).mono ?_
  rintro e w ⟨h | h, rfl⟩
  rotate_left
  · obtain ⟨_, rfl⟩ := h
    go_wp2
    go_ret
    exact ⟨rfl, Below.refl _ _⟩
  obtain ⟨hin, rfl⟩ := h
  have HIN := hide hin
  clear hin
  go_wp2_with fail
  refine (clone_any a0 n1 c0 H _ HLH.out (by omega) HN1.out HH.out).mono ?_
  rintro e w2 ⟨ha, hc, rfl, hcl1, hsz1, hb1⟩
  have HCL1 := hide hcl1
  have HSZ1 := hide hsz1
  have HB1 := hide hb1
  have HO2 : Hid (Has .i32 w2 b0 O) := HO.out.below hb1
  clear hcl1 hsz1 hb1
  go_wp2_with fail
  refine (clone_any b0 n2 d0 O _ HLO.out (by omega) HN2.out HO2.out).mono ?_
  rintro e w3 ⟨oa, oc, rfl, hcl2, hsz2, hb2⟩
  obtain ⟨HB, e1, e2, e3, e4⟩ : ∃ HB, w.heap.size ≤ HB ∧ HB ≤ w3.heap.size ∧ (n2 ≠ 0 → HB ≠ w2.heap.size) ∧ Cloned w3 ha HB n1 hc H := by
    have s1 := HB1.out.size
    have s2 := hb2.size
    by_cases h0 : n1 = 0
    · exact ⟨w3.heap.size, by omega, Nat.le_refl _, fun hn2 => by have := hsz2 hn2; omega, .inl h0⟩
    · have := HSZ1.out h0
      exact ⟨w.heap.size, Nat.le_refl _, by omega, fun _ => by omega, HCL1.out.of_block (fun _ => hb2.block _ this)⟩
  have HE3 := hide e3
  have HCL1' := hide e4
  have HCL2 := hide hcl2
  have HB3 : Hid (Below w.heap.size w w3) := HB1.out.trans (hb2.mono HB1.out.size)
  clear e3 e4 hcl2 hsz2 hb2 HCL1 HSZ1 HB1 HO2
  go_wp2_with fail
  refine (zzfrom_any w3 HB w2.heap.size ha oa hc oc dims n1 n2 H O HLH.out HLO.out (by omega) (by omega) HIN.out HO32.out HCL1'.out HCL2.out e2 HE3.out).mono ?_
  rintro e w4 ⟨base, P, CV, SL, NR, LV, rfl, hC, hb4, hcl4⟩
  have HC4 := hide hC
  have HB4 : Hid (Below w.heap.size w w4) := HB3.out.trans (hb4.mono e1)
  have HCL4 := hide hcl4
  clear hC hb4 hcl4 HE3 HCL1' HCL2 HB3 e1 e2
  go_wp2_with fail
  refine (fields_any w4 base P CV SL NR HB _ _ dims n1 n2 _ LV _ _ _ HC4.out).mono ?_
  rintro e w5 ⟨rfl, q, hq⟩
  have HB45 : Below w4.heap.size w4 w5 := by rw [hq]; exact Below.drewN (Below.refl _ _) q
  have HC5 := hide (HC4.out.below HB45)
  have HB5 : Hid (Below w.heap.size w w5) := HB4.out.trans (HB45.mono HB4.out.size)
  have HCL5 := hide (HCL4.out.below HB45)
  clear HB45 HC4 HCL4 hq HB4
  unfold fields
  have HG1 : Hid (Has .i32 w5 ha H) := by
    by_cases h0 : n1 = 0
    · exact .inl (List.eq_nil_of_length_eq_zero (by rw [HLH.out]; exact h0))
    · obtain ⟨x1, x2, _⟩ := HC5.out.hb h0
      exact .inr ⟨HB, 0, by simpa using (Value.slice.inj x1).1, fun i hi => by rw [Nat.zero_add, x2.cell (by rw [← HLH.out]; exact hi)]⟩
  have q1 : (dims != dims) = false := by simp
  go_wp2_with fail
  refine (same_any ha a0 n1 hc c0 H _ HLH.out (by omega) HG1.out (HH.out.below HB5.out)).mono ?_
  rintro e w6 ⟨rfl, q, hq⟩
  have HB56 : Below w5.heap.size w5 w6 := by rw [hq]; exact Below.drewN (Below.refl _ _) q
  have HC6 := hide (HC5.out.below HB56)
  have HB6 : Hid (Below w.heap.size w w6) := HB5.out.trans (HB56.mono HB5.out.size)
  have HCL6 := hide (HCL5.out.below HB56)
  clear HB56 HC5 HCL5 HB5 hq HG1
  go_wp2_with fail
  refine (same_any oa b0 n2 oc d0 O _ HLO.out (by omega) (HCL6.out.has HLO.out) (HO.out.below HB6.out)).mono ?_
  rintro e w7 ⟨rfl, q, hq⟩
  have HB67 : Below w6.heap.size w6 w7 := by rw [hq]; exact Below.drewN (Below.refl _ _) q
  have HC7 := hide (HC6.out.below HB67)
  have HB7 : Hid (Below w.heap.size w w7) := HB6.out.trans (HB67.mono HB6.out.size)
  clear HB67 HC6 HCL6 HB6 hq
  have q2 : ((n2 : Int) != (n2 : Int)) = false := by simp
  have q3 : ((n1 : Int) != (n1 : Int)) = false := by simp
  have hm3 := HM3.out
  clear HM3
  go_wp2
  clear hm3
  go_loopw [19, 20] (fun c x wr => ∃ k : Nat, k ≤ n1 ∧ x = .int .i64 k ∧ c = .int .i64 (Pl.cov H O k) ∧ Hid (wr.rowIs w7.heap.size 3 n2 (fun v => .int .i64 ((Pl.lst H O k v).length))) ∧ Hid (Below w7.heap.size w7 wr)) (fun _ x _ => n1 - (intOf x).toNat)
  case atStart => exact ⟨0, Nat.zero_le _, rfl, rfl, (World.rowIs_made w7 _ _ _).congr (fun v _ => by simp [Pl.lst]), (Below.refl _ _).alloc (Nat.le_refl _) _⟩
  case round =>
    obtain ⟨k, hk, rfl, rfl, HR, HB8⟩ := hrel
    by_cases hlt : k < n1
    · have hkz : (k : Int) < (n1 : Int) := by omega
      have hB := HB7.out.trans (HB8.out.mono HB7.out.size)
      obtain ⟨b, off, hx, hcH⟩ := (HH.out.below hB).at (by rw [HLH.out]; omega)
      have hin := HIN.out k (by rw [HLH.out]; exact hlt)
      obtain ⟨p, hp⟩ := Int.eq_ofNat_of_zero_le hin.1
      have hp2 : p < n2 := by omega
      have hpz : (p : Int) < (n2 : Int) := by omega
      obtain ⟨b2, off2, hy, hcO⟩ := (HO.out.below hB).at (by rw [HLO.out]; omega)
      have g1 : wr.cell? ⟨b, off + k, none⟩ = some (.int .i32 (p : Int)) := by rw [hcH k (by rw [HLH.out]; exact hlt), hp]
      have g2 : wr.cell? ⟨b2, off2 + p, none⟩ = some (.int .i32 (O.getD p 0)) := hcO p (by rw [HLO.out]; exact hp2)
      have HPP : Hid (Pl.peer H k = p) := by show Pl.peer H k = p; unfold Pl.peer; rw [hp]; rfl
      obtain ⟨hq0, hq1⟩ := HO32.out p
      obtain ⟨q, hq⟩ : ∃ q, q = O.getD p 0 := ⟨_, rfl⟩
      rw [← hq] at g2 hq0 hq1
      have HQ : Hid (q = O.getD p 0) := hq
      have hcl := Pl.cov_le H O k
      have hll := Pl.lst_len H O k p
      have g3 : wr.cell? ⟨w7.heap.size, p, none⟩ = some (.int .i64 ((Pl.lst H O k p).length)) := HR.out.cell hp2
      have g4 : wr.frozen? ⟨w7.heap.size, p, none⟩ = false := HR.out.frozen p
      clear hq hp hin hcH hcO hB
      subst hx hy
      by_cases hcv : q = (k : Int)
      · have HCV : Hid (Pl.cvd H O k = false) := by show Pl.cvd H O k = false; unfold Pl.cvd; rw [HPP.out, ← HQ.out, hcv]; simp
        have hd : (q != (k : Int)) = false := by simp [hcv]
        clear hcv
        go_wp2
        go_roundw
        case rel =>
          exact ⟨k + 1, by omega, by go_num, by simp [Pl.cov, HCV.out], HR.out.congr (fun v _ => by rw [Pl.lst_no HCV.out]), HB8.out⟩
        case measure => simp [intOf]; omega
      · have HCV : Hid (Pl.cvd H O k = true) := by show Pl.cvd H O k = true; unfold Pl.cvd; rw [HPP.out, ← HQ.out]; simp [hcv]
        have hd : (q != (k : Int)) = true := by simp [hcv]
        clear hcv
        go_wp2
        go_roundw
        case rel =>
          refine ⟨k + 1, by omega, by go_num, by simp [Pl.cov, HCV.out], (HR.out.set p _).congr (fun v _ => ?_), HB8.out.setCell (Nat.le_refl _) _⟩
          by_cases e : v = p
          · subst e; rw [if_pos rfl, Pl.lst_hit HPP.out HCV.out]; simp
          · rw [if_neg e, Pl.lst_miss (fun h => e (by rw [← h.1, HPP.out]))]
        case measure => simp [intOf]; omega
    · obtain rfl : k = n1 := by omega
      have HC8 := hide (HC7.out.below HB8.out)
      have HB9 : Hid (Below w.heap.size w wr) := HB7.out.trans (HB8.out.mono HB7.out.size)
      have HH8 := hide (HH.out.below HB9.out)
      have HO8 := hide (HO.out.below HB9.out)
      clear HC7 HB7 HB8 hlt hk
      have q4 : (((Pl.cov H O k : Nat) : Int) != ((Pl.cov H O k : Nat) : Int)) = false := by simp
      have qn : ∀ (w : World) (a : Option Addr) (n c n' c' : Nat), (binOp .neq 22 (.slice a n c) (.slice none n' c')).run Try.prog w = .ok (.bool (!a.isNone)) w := fun w a n c n' c' => run_neq_slice_nil_any w _ _ a n c n' c' Try.underlying22
      go_wp2
      go_loop [22] (fun t => ∃ j : Nat, j ≤ n2 ∧ t = .int .i64 j) (fun t => n2 - (intOf t).toNat)
      case atStart => exact ⟨0, Nat.zero_le _, rfl⟩
      case round =>
        obtain ⟨j, hj, rfl⟩ := hrel
        by_cases hlt : j < n2
        · have hjz : (j : Int) < (n2 : Int) := by omega
          obtain ⟨ao, cp, hLV, hHas, hnil⟩ := HC8.out.list hlt
          have hll := Pl.lst_len H O k j
          obtain ⟨m, hm⟩ : ∃ m, m = (Pl.lst H O k j).length := ⟨_, rfl⟩
          have g1 : wr.cell? ⟨CV, j, none⟩ = some (.slice ao m cp) := by rw [HC8.out.cv.cell hlt, hLV, hm]
          have g2 : wr.cell? ⟨w7.heap.size, j, none⟩ = some (.int .i64 m) := by rw [HR.out.cell hlt, hm]
          have e1 : ((m : Int) != (m : Int)) = false := by simp
          rw [← hm] at hll
          have HM := hide hm
          have HHas := hide hHas
          by_cases hm0 : m = 0
          · subst hm0
            obtain rfl := hnil (List.eq_nil_of_length_eq_zero hm.symm)
            clear hm hHas hnil hLV
            go_wp2
            go_loop [24] (fun t => t = .int .i64 0) (fun t => 0)
            case atStart => rfl
            case round =>
              obtain rfl := hrel
              go_wp2
              go_round
              case rel => exact ⟨j + 1, by omega, by go_num⟩
              case measure => simp [intOf]; omega
          · have e2 : ((m : Int) == 0) = false := by simp; omega
            clear hm hHas hnil hLV
            go_wp2
            go_loop [24] (fun t => ∃ i : Nat, i ≤ m ∧ t = .int .i64 i) (fun t => m - (intOf t).toNat)
            case atStart => exact ⟨0, Nat.zero_le _, rfl⟩
            case round =>
              obtain ⟨i, hi, rfl⟩ := hrel
              by_cases hlti : i < m
              · have hiz : (i : Int) < (m : Int) := by omega
                obtain ⟨bl, ol, hz, hcL⟩ := HHas.out.at (by rw [← HM.out]; omega)
                have hmem : ∀ t, t < m → ∃ x : Nat, (Pl.lst H O k j).getD t 0 = (x : Int) ∧ x < k ∧ Pl.peer H x = j ∧ Pl.cvd H O x = true := fun t ht => by
                  have h1 : t < (Pl.lst H O k j).length := by rw [← HM.out]; exact ht
                  have h2 := Pl.lst_mem H O k j _ (List.getElem_mem h1)
                  rw [show (Pl.lst H O k j).getD t 0 = (Pl.lst H O k j)[t] by simp [List.getElem?_eq_getElem h1]]
                  exact h2
                obtain ⟨x, hx1, hx2, hx3, hx4⟩ := hmem i hlti
                have g3 : wr.cell? ⟨bl, ol + i, none⟩ = some (.int .i32 (x : Int)) := by rw [hcL i (by rw [← HM.out]; exact hlti), hx1]
                obtain ⟨b, off, hx, hcH⟩ := HH8.out.at (by rw [HLH.out]; omega)
                obtain ⟨b2, off2, hy, hcO⟩ := HO8.out.at (by rw [HLO.out]; omega)
                have hHx : H.getD x 0 = (j : Int) := by
                  have := (HIN.out x (by rw [HLH.out]; exact hx2)).1
                  unfold Pl.peer at hx3
                  omega
                have g4 : wr.cell? ⟨b, off + x, none⟩ = some (.int .i32 (j : Int)) := by rw [hcH x (by rw [HLH.out]; exact hx2), hHx]
                have g5 : wr.cell? ⟨b2, off2 + j, none⟩ = some (.int .i32 (O.getD j 0)) := hcO j (by rw [HLO.out]; exact hlt)
                have hq3 : O.getD j 0 ≠ (x : Int) := by
                  unfold Pl.cvd at hx4
                  rw [hx3] at hx4
                  simpa using hx4
                obtain ⟨q, hq⟩ : ∃ q, q = O.getD j 0 := ⟨_, rfl⟩
                rw [← hq] at g5 hq3
                have t1 : decide ((x : Int) < 0) = false := by simp
                have t2 : decide ((k : Int) ≤ (x : Int)) = false := by simp; omega
                have t2' : decide (k ≤ x) = false := by simp; omega
                have t3 : ((j : Int) != (j : Int)) = false := by simp
                have t4 : (q == (x : Int)) = false := by simp [hq3]
                have hxz : (x : Int) < (k : Int) := by omega
                by_cases hi0 : i = 0
                · subst hi0
                  rw [Nat.add_zero] at g3
                  clear hq hHx hcH hcO hcL hmem hx1 hx3 hx4 hq3
                  subst hx hy hz
                  go_wp2
                  go_round
                  case rel => exact ⟨1, by omega, by go_num⟩
                  case measure => simp [intOf]; omega
                · obtain ⟨i', rfl⟩ : ∃ i', i = i' + 1 := ⟨i - 1, by omega⟩
                  obtain ⟨y, hy1, hy2, _, _⟩ := hmem i' (by omega)
                  have hrise := Pl.lst_rise H O k j i' (by rw [← HM.out]; exact hlti)
                  rw [hy1, hx1] at hrise
                  have g6 : wr.cell? ⟨bl, ol + i', none⟩ = some (.int .i32 (y : Int)) := by rw [hcL i' (by rw [← HM.out]; omega), hy1]
                  have t5 : decide ((x : Int) ≤ (y : Int)) = false := by simp; omega
                  have t5' : decide (x ≤ y) = false := by simp; omega
                  have hi'z : (i' : Int) < (m : Int) := by omega
                  clear hq hHx hcH hcO hcL hmem hx1 hx3 hx4 hy1 hq3
                  subst hx hy hz
                  go_wp2
                  go_round
                  case rel => exact ⟨i' + 2, by omega, by go_num⟩
                  case measure => simp [intOf]; omega
              · obtain rfl : i = m := by omega
                go_wp2
                go_round
                case rel => exact ⟨j + 1, by omega, by go_num⟩
                case measure => simp [intOf]; omega
        · obtain rfl : j = n2 := by omega
          go_wp2
          go_loop [26] (fun t => ∃ x : Nat, x ≤ k ∧ t = .int .i64 x) (fun t => k - (intOf t).toNat)
          case atStart => exact ⟨0, Nat.zero_le _, rfl⟩
          case round =>
            obtain ⟨x, hx, rfl⟩ := hrel
            by_cases hltx : x < k
            · have hxz : (x : Int) < (k : Int) := by omega
              obtain ⟨b, off, hxa, hcH⟩ := HH8.out.at (by rw [HLH.out]; omega)
              have hin := HIN.out x (by rw [HLH.out]; exact hltx)
              obtain ⟨p, hp⟩ := Int.eq_ofNat_of_zero_le hin.1
              have hp2 : p < j := by omega
              have hpz : (p : Int) < (j : Int) := by omega
              obtain ⟨b2, off2, hya, hcO⟩ := HO8.out.at (by rw [HLO.out]; omega)
              have HPP : Pl.peer H x = p := by unfold Pl.peer; rw [hp]; rfl
              have g1 : wr.cell? ⟨NR, x, none⟩ = some (.int .i32 0) := HC8.out.nr.cell hltx
              have g2 : wr.cell? ⟨b, off + x, none⟩ = some (.int .i32 (p : Int)) := by rw [hcH x (by rw [HLH.out]; exact hltx), hp]
              have g3 : wr.cell? ⟨SL, x, none⟩ = some (.int .i32 (Pl.slt H O k x)) := HC8.out.sl.cell hltx
              have g4 : wr.cell? ⟨b2, off2 + p, none⟩ = some (.int .i32 (O.getD p 0)) := hcO p (by rw [HLO.out]; exact hp2)
              obtain ⟨q, hq⟩ : ∃ q, q = O.getD p 0 := ⟨_, rfl⟩
              rw [← hq] at g4
              by_cases hcv : q = (x : Int)
              · have HCV : Pl.cvd H O x = false := by unfold Pl.cvd; rw [HPP, ← hq, hcv]; simp
                have hd : (q != (x : Int)) = false := by simp [hcv]
                rw [show Pl.slt H O k x = 0 by simp [Pl.slt, HCV]] at g3
                clear hcv HCV hq hp hin hcH hcO HPP
                subst hxa hya
                go_wp2
                go_round
                case rel => exact ⟨x + 1, by omega, by go_num⟩
                case measure => simp [intOf]; omega
              · have HCV : Pl.cvd H O x = true := by unfold Pl.cvd; rw [HPP, ← hq]; simp [hcv]
                have hd : (q != (x : Int)) = true := by simp [hcv]
                obtain ⟨s1, s2⟩ := Pl.slt_at H O k x hltx HCV
                obtain ⟨ao, cp, hLV, hHas, _⟩ := HC8.out.list hp2
                have hll := Pl.lst_len H O k p
                rw [HPP] at s1 s2
                rw [show Pl.slt H O k x = ((Pl.lst H O x p).length : Int) by simp [Pl.slt, HCV, hltx, HPP]] at g3
                obtain ⟨bl, ol, hza, hcL⟩ := hHas.at (by omega)
                have g5 : wr.cell? ⟨bl, ol + (Pl.lst H O x p).length, none⟩ = some (.int .i32 (x : Int)) := by rw [hcL _ s1, s2]
                have g6 : wr.cell? ⟨CV, p, none⟩ = some (.slice ao (Pl.lst H O k p).length cp) := by rw [HC8.out.cv.cell hp2, hLV]
                obtain ⟨sn, hsn⟩ : ∃ sn, sn = (Pl.lst H O x p).length := ⟨_, rfl⟩
                obtain ⟨m, hm⟩ : ∃ m, m = (Pl.lst H O k p).length := ⟨_, rfl⟩
                rw [← hsn] at s1 g3 g5
                rw [← hm] at s1 g6 hll
                have t1 : decide ((sn : Int) < 0) = false := by simp
                have t2 : decide ((m : Int) ≤ (sn : Int)) = false := by simp; omega
                have t2' : decide (m ≤ sn) = false := by simp; omega
                have hsz : (sn : Int) < (m : Int) := by omega
                have t3 : ((x : Int) != (x : Int)) = false := by simp
                clear hcv HCV hq hp hin hcH hcO HPP s2 hLV hHas hcL hsn hm
                subst hxa hya hza
                go_wp2
                go_round
                case rel => exact ⟨x + 1, by omega, by go_num⟩
                case measure => simp [intOf]; omega
            · obtain rfl : x = k := by omega
              go_wp2
              go_ret
              exact ⟨rfl, HB9.out⟩

theorem builds (dims : Int) (a0 b0 : Option Addr) (n1 c0 n2 d0 : Nat) (H O : List Int) (w : World) (hlH : H.length = n1) (hlO : O.length = n2) (hnil1 : a0 = none → n1 = 0 ∧ c0 = 0) (hnil2 : b0 = none → n2 = 0 ∧ d0 = 0)
    (hH32 : ∀ i, -2147483648 ≤ H.getD i 0 ∧ H.getD i 0 ≤ 2147483647) (hO32 : ∀ i, -2147483648 ≤ O.getD i 0 ∧ O.getD i 0 ≤ 2147483647) (h1 : Has .i32 w a0 H) (h2 : Has .i32 w b0 O) :
    Calls Try.prog 3 #[.int .i64 dims, .slice a0 n1 c0, .slice b0 n2 d0] w fun e w' => e = .returned (.bool true) ∧ Below w.heap.size w w' := by
  by_cases hn : n1 + n2 ≤ 262144
  · exact builds_small dims a0 b0 n1 c0 n2 d0 H O w hlH hlO hn hnil1 hnil2 hH32 hO32 h1 h2
  · exact builds_big dims a0 b0 n1 c0 n2 d0 w (by omega)
end Go.Proofs.Qxb6603178a
