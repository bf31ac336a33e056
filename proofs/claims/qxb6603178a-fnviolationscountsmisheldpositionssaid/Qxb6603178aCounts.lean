/-
  Seat b6603178a: the walk of 'FnViolationsCountsMisheldPositions' (function 5).
-/
import Derived.Test.Qxb6603178aClone2
namespace Go.Proofs.Qxb6603178a
open Go.RowKit
set_option linter.unusedVariables false

set_option maxRecDepth 100000 in
set_option maxHeartbeats 3200000 in
theorem counts_big (dims cov : Int) (a1 a2 a3 a4 a6 : Option Addr) (n1 c1 n2 c2 n3 c3 n4 c4 n6 c6 : Nat) (A : Nat → Option Addr) (C : Nat → Nat) (CL : Nat → List Int) (w : World) (h : HasRows w a3 n3 A C CL)
    (hbig : 262144 < n1 ∨ 262144 < n2 ∨ 262144 < n4 ∨ 262144 < n6 ∨ 65536 < n3) :
    Calls Try.prog 5 #[.int .i64 dims, .slice a1 n1 c1, .slice a2 n2 c2, .slice a3 n3 c3, .slice a4 n4 c4, .int .i64 cov, .slice a6 n6 c6] w fun e w' => e = .returned (.bool true) ∧ Below w.heap.size w w' := by
  have HZ := hide (zz16_any dims cov a1 a2 a3 a4 a6 n1 c1 n2 c2 n3 c3 n4 c4 n6 c6 A C CL w h)
  clear h
  by_cases h1 : 262144 < n1
  · clear hbig
    go_enter Try.func5, Try.ntmps5
    go_wp2_with fail
    refine HZ.out.mono ?_
    rintro e w ⟨h, rfl⟩
    obtain ⟨b, rfl, _⟩ := h.out
    cases b
    all_goals
      go_wp2
      go_ret
      exact ⟨rfl, Below.refl _ _⟩
  have d1 : decide ((262144 : Int) < (n1 : Int)) = false := by simp; omega
  by_cases h2 : 262144 < n2
  · clear hbig
    go_enter Try.func5, Try.ntmps5
    go_wp2_with fail
    refine HZ.out.mono ?_
    rintro e w ⟨h, rfl⟩
    obtain ⟨b, rfl, _⟩ := h.out
    cases b
    all_goals
      go_wp2
      go_ret
      exact ⟨rfl, Below.refl _ _⟩
  have d2 : decide ((262144 : Int) < (n2 : Int)) = false := by simp; omega
  by_cases h3 : 262144 < n4
  · clear hbig
    go_enter Try.func5, Try.ntmps5
    go_wp2_with fail
    refine HZ.out.mono ?_
    rintro e w ⟨h, rfl⟩
    obtain ⟨b, rfl, _⟩ := h.out
    cases b
    all_goals
      go_wp2
      go_ret
      exact ⟨rfl, Below.refl _ _⟩
  have d3 : decide ((262144 : Int) < (n4 : Int)) = false := by simp; omega
  by_cases h4 : 262144 < n6
  · clear hbig
    go_enter Try.func5, Try.ntmps5
    go_wp2_with fail
    refine HZ.out.mono ?_
    rintro e w ⟨h, rfl⟩
    obtain ⟨b, rfl, _⟩ := h.out
    cases b
    all_goals
      go_wp2
      go_ret
      exact ⟨rfl, Below.refl _ _⟩
  have d4 : decide ((262144 : Int) < (n6 : Int)) = false := by simp; omega
  have h5 : 65536 < n3 := by omega
  clear hbig
  go_enter Try.func5, Try.ntmps5
  go_wp2_with fail
  refine HZ.out.mono ?_
  rintro e w ⟨h, rfl⟩
  obtain ⟨b, rfl, _⟩ := h.out
  cases b
  all_goals
    go_wp2
    go_ret
    exact ⟨rfl, Below.refl _ _⟩

/-- The law's own two rows, behind the claims s. -/
structure Claims (w wr : World) (K1 K2 n1 : Nat) (s : List (Nat × Nat)) : Prop where
  r1 : wr.rowIs K1 3 n1 (fun y => .int .i64 (Pv.clf s y))
  r2 : wr.rowIs K2 3 n1 (fun y => .int .i64 (Pv.cmf s y))
  bel : Below w.heap.size w wr
theorem Claims.step {w wr : World} {K1 K2 n1 v x : Nat} {s : List (Nat × Nat)} (h : Claims w wr K1 K2 n1 s) (h1 : w.heap.size ≤ K1) (h2 : w.heap.size ≤ K2) (hne : K1 ≠ K2) {c : Int} (hc : c = (Pv.clf s x : Int) + 1) :
    Claims w ((wr.setCell ⟨K1, x, none⟩ (.int .i64 c)).setCell ⟨K2, x, none⟩ (.int .i64 (v : Int))) K1 K2 n1 (s ++ [(v, x)]) := by
  refine ⟨((h.r1.set x _).setOther (by show K1 ≠ K2; exact hne) _).congr (fun y _ => ?_), ((h.r2.setOther (by show K2 ≠ K1; omega) _).set x _).congr (fun y _ => ?_), (h.bel.setCell (p := ⟨K1, x, none⟩) h1 _).setCell (p := ⟨K2, x, none⟩) h2 _⟩
  · rw [Pv.clf_snoc]
    by_cases e : y = x
    · subst e; simp [hc]
    · simp [e]
  · rw [Pv.cmf_snoc]
    by_cases e : y = x
    · subst e; simp
    · simp [e]
theorem Claims.drewN {w wr : World} {K1 K2 n1 : Nat} {s : List (Nat × Nat)} (h : Claims w wr K1 K2 n1 s) (q : Nat) : Claims w (wr.drewN q) K1 K2 n1 s := ⟨h.r1, h.r2, Below.drewN h.bel q⟩

theorem claims_start (w : World) (n1 : Nat) : Claims w ((w.alloc (.cells (madeCells #[.int .i64 0] n1) 3)).alloc (.cells (madeCells #[.int .i64 0] n1) 3)) w.heap.size (w.heap.size + 1) n1 [] := by
  refine ⟨((World.rowIs_made w _ _ _).alloc _).congr (fun y _ => by simp [Pv.clf]), ?_, ((Below.refl _ _).alloc (Nat.le_refl _) _).alloc (by rw [Deep.nblk_alloc]; omega) _⟩
  have h := World.rowIs_made (w.alloc (.cells (madeCells #[.int .i64 0] n1) 3)) (.int .i64 0) n1 3
  rw [Deep.nblk_alloc] at h
  exact h.congr (fun y _ => by simp [Pv.cmf])

set_option maxRecDepth 100000 in
set_option maxHeartbeats 6400000 in
theorem counts_small (dims cov : Int) (a1 a2 a3 a4 a6 : Option Addr) (n1 c1 n2 c2 n3 c3 n4 c4 n6 c6 : Nat) (A : Nat → Option Addr) (C : Nat → Nat) (CL : Nat → List Int) (H O S4 S6 : List Int) (w : World) (h3 : HasRows w a3 n3 A C CL)
    (hn1 : n1 ≤ 262144) (hn2 : n2 ≤ 262144) (hn4 : n4 ≤ 262144) (hn6 : n6 ≤ 262144) (hn3 : n3 ≤ 65536) (hl1 : H.length = n1) (hl2 : O.length = n2) (hl4 : S4.length = n4) (hl6 : S6.length = n6)
    (hnil1 : a1 = none → n1 = 0 ∧ c1 = 0) (hnil2 : a2 = none → n2 = 0 ∧ c2 = 0) (hnil3 : a3 = none → n3 = 0 ∧ c3 = 0) (hnil4 : a4 = none → n4 = 0 ∧ c4 = 0) (hnil6 : a6 = none → n6 = 0 ∧ c6 = 0)
    (h1 : Has .i32 w a1 H) (h2 : Has .i32 w a2 O) (h4 : Has .i32 w a4 S4) (h6 : Has .i32 w a6 S6) (b1 : ∀ i, -2147483648 ≤ H.getD i 0 ∧ H.getD i 0 ≤ 2147483647) (b2 : ∀ i, -2147483648 ≤ O.getD i 0 ∧ O.getD i 0 ≤ 2147483647)
    (hrow : ∀ r, r < n3 → (A r = none → (CL r).length = 0 ∧ C r = 0) ∧ (∀ i, -2147483648 ≤ (CL r).getD i 0 ∧ (CL r).getD i 0 ≤ 2147483647)) :
    Calls Try.prog 5 #[.int .i64 dims, .slice a1 n1 c1, .slice a2 n2 c2, .slice a3 n3 c3, .slice a4 n4 c4, .int .i64 cov, .slice a6 n6 c6] w fun e w' => e = .returned (.bool true) ∧ Below w.heap.size w w' := by
  have HZ := hide (zz16_any dims cov a1 a2 a3 a4 a6 n1 c1 n2 c2 n3 c3 n4 c4 n6 c6 A C CL w h3)
  have HL1 := hide hl1
  have HL2 := hide hl2
  have HL4 := hide hl4
  have HL6 := hide hl6
  have HN1 := hide hnil1
  have HN2 := hide hnil2
  have HN3 := hide hnil3
  have HN4 := hide hnil4
  have HN6 := hide hnil6
  have HH := hide h1
  have HO := hide h2
  have HC := hide h3
  have HS4 := hide h4
  have HS6 := hide h6
  have HB1 := hide b1
  have HB2 := hide b2
  have HROW := hide hrow
  clear hl1 hl2 hl4 hl6 hnil1 hnil2 hnil3 hnil4 hnil6 h1 h2 h3 h4 h6 b1 b2 hrow
  have d1 : decide ((262144 : Int) < (n1 : Int)) = false := by simp; omega
  have d2 : decide ((262144 : Int) < (n2 : Int)) = false := by simp; omega
  have d3 : decide ((262144 : Int) < (n4 : Int)) = false := by simp; omega
  have d4 : decide ((262144 : Int) < (n6 : Int)) = false := by simp; omega
  have d5 : decide ((65536 : Int) < (n3 : Int)) = false := by simp; omega
  go_enter Try.func5, Try.ntmps5
  go_wp2_with fail
  refine HZ.out.mono ?_
  rintro e w ⟨h, rfl⟩
  obtain ⟨b, rfl, _⟩ := h.out
  clear HZ h
  cases b
  · go_wp2
    go_ret
    exact ⟨rfl, Below.refl _ _⟩
  go_wp2_with fail
  refine (fit_any _ a3 n3 c3 A C CL w (by omega) HC.out).mono ?_
  rintro e w ⟨h, rfl⟩
  obtain ⟨b, rfl, hfit⟩ := h.out
  clear h
  cases b
  · clear hfit
    go_wp2
    go_ret
    exact ⟨rfl, Below.refl _ _⟩
  have HFIT := hide (hfit rfl)
  clear hfit
  by_cases h32 : n3 < n2
  · have e1 : decide ((n3 : Int) < (n2 : Int)) = true := by simp; omega
    have e2 : decide (n3 < n2) = true := by simp; omega
    go_wp2
    go_ret
    exact ⟨rfl, Below.refl _ _⟩
  have e1 : decide ((n3 : Int) < (n2 : Int)) = false := by simp; omega
  have e2 : decide (n3 < n2) = false := by simp; omega
  go_wp2_with fail
  refine (range_any a2 n2 c2 n1 O _ HL2.out (by omega) (by omega) (fun i _ => HB2.out i) HO.out).mono ?_
  rintro e w ⟨h | h, rfl⟩
  rotate_left
  · obtain ⟨_, rfl⟩ := h
    go_wp2
    go_ret
    exact ⟨rfl, Below.refl _ _⟩
  obtain ⟨hin, rfl⟩ := h
  have HIN := hide hin
  clear hin
  go_wp2
  go_loop [15] (fun i => ∃ v : Nat, v ≤ n2 ∧ i = .int .i64 v ∧ Hid (∀ u, u < v → inR (CL u) n1)) (fun i => n2 - (intOf i).toNat)
  case atStart => exact ⟨0, Nat.zero_le _, rfl, fun u hu => absurd hu (Nat.not_lt_zero _)⟩
  case round =>
    obtain ⟨v, hv, rfl, HU⟩ := hrel
    by_cases hlt : v < n2
    · have hvz : (v : Int) < (n2 : Int) := by omega
      have hvz3 : (v : Int) < (n3 : Int) := by omega
      obtain ⟨b3, off3, hz, hcC⟩ := HC.out.at (by omega)
      obtain ⟨g1, g2⟩ := hcC v (by omega)
      obtain ⟨m, hm⟩ : ∃ m, m = (CL v).length := ⟨_, rfl⟩
      have hmm := HFIT.out v (by omega)
      rw [← hm] at g1 hmm
      have HM := hide hm
      have HG2 := hide g2
      clear hm g2 hcC
      subst hz
      go_wp2_with fail
      refine (range_any (A v) m (C v) n1 (CL v) _ HM.out.symm (by omega) (by omega) (fun i _ => (HROW.out v (by omega)).2 i) HG2.out).mono ?_
      rintro e w ⟨h | h, rfl⟩
      · obtain ⟨hin, rfl⟩ := h
        have HU' : Hid (∀ u, u < v + 1 → inR (CL u) n1) := fun u hu => by
          by_cases e : u = v
          · subst e; exact hin
          · exact HU.out u (by omega)
        clear hin
        go_wp2
        go_round
        case rel => exact ⟨v + 1, by omega, by go_num, HU'.out⟩
        case measure => simp [intOf]; omega
      · obtain ⟨_, rfl⟩ := h
        go_wp2
        go_ret
        exact ⟨rfl, Below.refl _ _⟩
    · obtain rfl : v = n2 := by omega
      clear hlt hv
      go_wp2_with fail
      refine (clone_any a1 n1 c1 H _ HL1.out (by omega) HN1.out HH.out).mono ?_
      rintro e w2 ⟨ha, hc, rfl, hcl, _, hb⟩
      have HCL1 := hide (hcl.has HL1.out)
      have B2 := hide hb
      clear hcl hb
      go_wp2_with fail
      refine (clone_any a2 v c2 O _ HL2.out (by omega) HN2.out (HO.out.below B2.out)).mono ?_
      rintro e w3 ⟨oa, oc, rfl, hcl, _, hb⟩
      have HCL1' := hide (HCL1.out.below hb)
      have HCL2 := hide (hcl.has HL2.out)
      have B3 : Hid (Below w.heap.size w w3) := B2.out.trans (hb.mono B2.out.size)
      clear hcl hb HCL1 B2
      go_wp2_with fail
      refine (clone2_any a3 n3 c3 A C CL _ (by omega) HN3.out (HC.out.below B3.out) (fun r hr => ⟨HFIT.out r hr, (HROW.out r hr).1⟩)).mono ?_
      rintro e w4 ⟨ca, cc, A', C', rfl, hcl, hb⟩
      have HCL1 := hide (HCL1'.out.below hb)
      have HCL2' := hide (HCL2.out.below hb)
      have HCL3 := hide hcl
      have B4 : Hid (Below w.heap.size w w4) := B3.out.trans (hb.mono B3.out.size)
      clear hcl hb HCL1' HCL2 B3
      go_wp2_with fail
      refine (clone_any a4 n4 c4 S4 _ HL4.out (by omega) HN4.out (HS4.out.below B4.out)).mono ?_
      rintro e w5 ⟨sa, sc, rfl, _, _, hb⟩
      have HCL1' := hide (HCL1.out.below hb)
      have HCL2 := hide (HCL2'.out.below hb)
      have HCL3' := hide (HCL3.out.below hb)
      have B5 : Hid (Below w.heap.size w w5) := B4.out.trans (hb.mono B4.out.size)
      clear hb HCL1 HCL2' HCL3 B4
      go_wp2_with fail
      refine (clone_any a6 n6 c6 S6 _ HL6.out (by omega) HN6.out (HS6.out.below B5.out)).mono ?_
      rintro e w6 ⟨na, nc, rfl, _, _, hb⟩
      have HCL1 := hide (HCL1'.out.below hb)
      have HCL2' := hide (HCL2.out.below hb)
      have HCL3 := hide (HCL3'.out.below hb)
      have B6 : Hid (Below w.heap.size w w6) := B5.out.trans (hb.mono B5.out.size)
      clear hb HCL1' HCL2 HCL3' B5
      go_wp2_with fail
      refine (make_any w6 dims cov ha oa ca sa na n1 hc v oc n3 cc n4 sc n6 nc).mono ?_
      rintro e w7 ⟨rfl, p1, p2, p3, hb⟩
      have HCL1' := hide (HCL1.out.below hb)
      have HCL2 := hide (HCL2'.out.below hb)
      have HCL3' := hide (HCL3.out.below hb)
      have B7 : Hid (Below w.heap.size w w7) := B6.out.trans (hb.mono B6.out.size)
      have P1 := hide p1
      have P2 := hide p2
      have P3 := hide p3
      clear hb HCL1 HCL2' HCL3 B6 p1 p2 p3
      go_wp2_with fail
      refine (viol_any w7 w6.heap.size n1 v n3 hc oc cc ha oa ca A' C' H O CL HL1.out HL2.out (by omega) (by omega) (by omega) (by omega) P1.out P2.out P3.out HCL1'.out HCL2.out HCL3'.out HIN.out HU.out (fun u hu => HFIT.out u (by omega))).mono ?_
      rintro e w8 ⟨rfl, hb⟩
      have B8 : Hid (Below w.heap.size w w8) := B7.out.trans (hb.mono B7.out.size)
      clear hb HCL1' HCL2 HCL3' B7 P1 P2 P3
      rw [Pv.bad_eq]
      have hm3 := run_make_row' (P := Try.prog) 32 3 (.int .i64 0) 8 Try.underlying32 Try.info3 rfl .i64 .i64 n1 (by omega) (by omega)
      go_wp2
      clear hm3
      go_loopw [21] (fun i wr => ∃ u : Nat, u ≤ v ∧ i = .int .i64 u ∧ Hid (Claims w8 wr w8.heap.size (w8.heap.size + 1) n1 (Pv.pre O CL u))) (fun i _ => v - (intOf i).toNat)
      case atStart => exact ⟨0, Nat.zero_le _, rfl, claims_start w8 n1⟩
      case round =>
        obtain ⟨u, hu, rfl, HK⟩ := hrel
        by_cases hlt : u < v
        · have huz : (u : Int) < (v : Int) := by omega
          have huz3 : (u : Int) < (n3 : Int) := by omega
          have hB := B8.out.trans (HK.out.bel.mono B8.out.size)
          obtain ⟨b2, off2, hy, hcO⟩ := (HO.out.below hB).at (by rw [HL2.out]; omega)
          obtain ⟨x, hx1, hx2, hx3⟩ := inR_nat HIN.out (i := u) (by rw [HL2.out]; exact hlt)
          obtain ⟨b3, off3, hz, hcC⟩ := HC.out.at (by omega)
          have hb3 : b3 < w.heap.size := World.block_lt_of_cell? _ _ (hcC u (by omega)).1
          have hw8 := B8.out.size
          have hxz : (x : Int) < (n1 : Int) := by omega
          have g2 : wr.cell? ⟨b2, off2 + u, none⟩ = some (.int .i32 (x : Int)) := by rw [hcO u (by rw [HL2.out]; exact hlt), hx1]
          have g3 : wr.cell? ⟨w8.heap.size, x, none⟩ = some (.int .i64 (Pv.clf (Pv.pre O CL u) x)) := HK.out.r1.cell hx2
          have g4 : wr.frozen? ⟨w8.heap.size, x, none⟩ = false := HK.out.r1.frozen x
          have g5 : ∀ c, (wr.setCell ⟨w8.heap.size, x, none⟩ c).cell? ⟨w8.heap.size + 1, x, none⟩ = some (.int .i64 (Pv.cmf (Pv.pre O CL u) x)) := fun c => by
            rw [World.cell?_setCell_other _ _ _ _ (by simp)]; exact HK.out.r2.cell hx2
          have g6 : ∀ c, (wr.setCell ⟨w8.heap.size, x, none⟩ c).frozen? ⟨w8.heap.size + 1, x, none⟩ = false := fun c => by
            rw [World.frozen?_setCell]; exact HK.out.r2.frozen x
          obtain ⟨m, hm⟩ : ∃ m, m = (CL u).length := ⟨_, rfl⟩
          obtain ⟨Av, hAv⟩ : ∃ Av, Av = A u := ⟨_, rfl⟩
          have hmm := HFIT.out u (by omega)
          have g7 : ∀ c d, ((wr.setCell ⟨w8.heap.size, x, none⟩ c).setCell ⟨w8.heap.size + 1, x, none⟩ d).cell? ⟨b3, off3 + u, none⟩ = some (.slice Av m (C u)) := fun c d => by
            rw [World.cell?_setCell_other _ _ _ _ (fun e => by have := congrArg Addr.block e; simp at this; omega), World.cell?_setCell_other _ _ _ _ (fun e => by have := congrArg Addr.block e; simp at this; omega), hB.cell (p := ⟨b3, off3 + u, none⟩) hb3, hm, hAv]
            exact (hcC u (by omega)).1
          have HAV : Hid (Has .i32 w Av (CL u)) := by
            show Has .i32 w Av (CL u)
            rw [hAv]; exact (hcC u (by omega)).2
          have hll := Pv.pre_len O CL 262144 u (fun t ht => HFIT.out t (by omega))
          have hbig : Pv.clf (Pv.pre O CL u) x ≤ 1125899906842624 := by have := Pv.clf_le x (Pv.pre O CL u); omega
          have HK2 := hide (HK.out.step (v := u) (x := x) (c := (Pv.clf (Pv.pre O CL u) x : Int) + 1) (Nat.le_refl _) (by omega) (by omega) rfl)
          rw [← hm] at hmm
          have HM := hide hm
          have HX3 := hide hx3
          obtain ⟨cl, hcl⟩ : ∃ cl, cl = Pv.clf (Pv.pre O CL u) x := ⟨_, rfl⟩
          rw [← hcl] at g3 hbig HK2
          clear hcO hcC hB hx1 hx3 hll hm hAv HK hcl
          subst hy hz
          go_wp2
          clear g2 g3 g4 g5 g6 g7 hbig
          go_loopw [24] (fun i wr => ∃ j : Nat, j ≤ m ∧ i = .int .i64 j ∧ Hid (Claims w8 wr w8.heap.size (w8.heap.size + 1) n1 (Pv.mid O CL u j))) (fun i _ => m - (intOf i).toNat)
          case atStart => exact ⟨0, Nat.zero_le _, rfl, by have := HK2.out; rw [← HX3.out, ← Pv.mid_zero, HX3.out] at this; exact this⟩
          case round =>
            clear HK2
            obtain ⟨j, hj, rfl, HK⟩ := hrel
            by_cases hltj : j < m
            · have hjz : (j : Int) < (m : Int) := by omega
              have hB := B8.out.trans (HK.out.bel.mono B8.out.size)
              obtain ⟨b4, off4, hz4, hcL⟩ := (HAV.out.below hB).at (by rw [← HM.out]; omega)
              obtain ⟨y, hy1, hy2, hy3⟩ := inR_nat (HU.out u hlt) (i := j) (by rw [← HM.out]; exact hltj)
              have hyz : (y : Int) < (n1 : Int) := by omega
              have g2 : wr.cell? ⟨b4, off4 + j, none⟩ = some (.int .i32 (y : Int)) := by rw [hcL j (by rw [← HM.out]; exact hltj), hy1]
              have g3 : wr.cell? ⟨w8.heap.size, y, none⟩ = some (.int .i64 (Pv.clf (Pv.mid O CL u j) y)) := HK.out.r1.cell hy2
              have g4 : wr.frozen? ⟨w8.heap.size, y, none⟩ = false := HK.out.r1.frozen y
              have g5 : ∀ c, (wr.setCell ⟨w8.heap.size, y, none⟩ c).cell? ⟨w8.heap.size + 1, y, none⟩ = some (.int .i64 (Pv.cmf (Pv.mid O CL u j) y)) := fun c => by
                rw [World.cell?_setCell_other _ _ _ _ (by simp)]; exact HK.out.r2.cell hy2
              have g6 : ∀ c, (wr.setCell ⟨w8.heap.size, y, none⟩ c).frozen? ⟨w8.heap.size + 1, y, none⟩ = false := fun c => by
                rw [World.frozen?_setCell]; exact HK.out.r2.frozen y
              have hll := Pv.mid_len O CL 262144 u j (fun t ht => HFIT.out t (by omega))
              have hbig : Pv.clf (Pv.mid O CL u j) y ≤ 1125899906842624 := by have := Pv.clf_le y (Pv.mid O CL u j); omega
              have HK2 := hide (HK.out.step (v := u) (x := y) (c := (Pv.clf (Pv.mid O CL u j) y : Int) + 1) (Nat.le_refl _) (by omega) (by omega) rfl)
              have HY3 := hide hy3
              obtain ⟨cl2, hcl2⟩ : ∃ cl2, cl2 = Pv.clf (Pv.mid O CL u j) y := ⟨_, rfl⟩
              rw [← hcl2] at g3 hbig HK2
              clear hcL hB hy1 hy3 hll HK hcl2
              subst hz4
              go_wp2
              go_roundw
              case rel => exact ⟨j + 1, by omega, by go_num, by have := HK2.out; rw [← HY3.out, ← Pv.mid_step O CL u j (by rw [← HM.out]; exact hltj), HY3.out] at this; exact this⟩
              case measure => simp [intOf]; omega
            · obtain rfl : j = m := by omega
              have HK3 : Hid (Claims w8 wr w8.heap.size (w8.heap.size + 1) n1 (Pv.pre O CL (u + 1))) := by
                have := HK.out; rw [HM.out, Pv.mid_all] at this; exact this
              clear HK
              go_wp2
              go_roundw
              case rel => exact ⟨u + 1, by omega, by go_num, HK3.out⟩
              case measure => simp [intOf]; omega
        · obtain rfl : u = v := by omega
          clear hlt hu
          go_wp2
          obtain ⟨s, hs⟩ : ∃ s, s = Pv.pre O CL u := ⟨_, rfl⟩
          rw [← hs] at HK ⊢
          clear hs
          go_loopw [26, 27] (fun c i wr => ∃ k : Nat, k ≤ n1 ∧ i = .int .i64 k ∧ c = .int .i64 (Pv.cnt (Pv.bad2 H s) k) ∧ Hid (Claims w8 wr w8.heap.size (w8.heap.size + 1) n1 s)) (fun _ i _ => n1 - (intOf i).toNat)
          case atStart => exact ⟨0, Nat.zero_le _, rfl, rfl, HK.out⟩
          case round =>
            clear HK
            obtain ⟨k, hk, rfl, rfl, HK⟩ := hrel
            by_cases hltk : k < n1
            · have hkz : (k : Int) < (n1 : Int) := by omega
              have hB := B8.out.trans (HK.out.bel.mono B8.out.size)
              obtain ⟨b, off, hx, hcH⟩ := (HH.out.below hB).at (by rw [HL1.out]; omega)
              have g1 : wr.cell? ⟨w8.heap.size, k, none⟩ = some (.int .i64 (Pv.clf s k)) := HK.out.r1.cell hltk
              have g2 : wr.cell? ⟨w8.heap.size + 1, k, none⟩ = some (.int .i64 (Pv.cmf s k)) := HK.out.r2.cell hltk
              have g3 : wr.cell? ⟨b, off + k, none⟩ = some (.int .i32 (H.getD k 0)) := hcH k (by rw [HL1.out]; exact hltk)
              have hcl := Pv.cnt_le (Pv.bad2 H s) k
              have hb32 := HB1.out k
              obtain ⟨c, hc0⟩ : ∃ c, c = Pv.clf s k := ⟨_, rfl⟩
              obtain ⟨l, hl0⟩ : ∃ l, l = Pv.cmf s k := ⟨_, rfl⟩
              obtain ⟨y, hy0⟩ : ∃ y, y = H.getD k 0 := ⟨_, rfl⟩
              rw [← hc0] at g1
              rw [← hl0] at g2
              rw [← hy0] at g3 hb32
              obtain ⟨hb1, hb2⟩ := hb32
              clear hcH hB
              subst hx
              by_cases e1 : c = 1
              · by_cases e2 : y = (l : Int)
                · have HE : Hid (Pv.bad2 H s k = false) := by show Pv.bad2 H s k = false; unfold Pv.bad2; rw [← hc0, ← hl0, ← hy0]; simp [e1, e2]
                  subst e1
                  have t2 : (y == (l : Int)) = true := by simp [e2]
                  clear e2 hc0 hl0 hy0
                  go_wp2
                  go_quiet (fail)
                  go_wp2
                  go_roundw
                  case rel => exact ⟨k + 1, by omega, by go_num, by simp [Pv.cnt, HE.out], HK.out.drewN _⟩
                  case measure => simp [intOf]; omega
                · have HE : Hid (Pv.bad2 H s k = true) := by show Pv.bad2 H s k = true; unfold Pv.bad2; rw [← hc0, ← hl0, ← hy0]; simp [e1, e2]
                  subst e1
                  have t2 : (y == (l : Int)) = false := by simp [e2]
                  clear e2 hc0 hl0 hy0
                  go_wp2
                  go_quiet (fail)
                  go_wp2
                  go_roundw
                  case rel => exact ⟨k + 1, by omega, by go_num, by simp [Pv.cnt, HE.out], HK.out.drewN _⟩
                  case measure => simp [intOf]; omega
              · have HE : Hid (Pv.bad2 H s k = true) := by show Pv.bad2 H s k = true; unfold Pv.bad2; rw [← hc0, ← hl0, ← hy0]; simp [e1]
                have t1 : ((c : Int) == 1) = false := by simp; omega
                clear e1 hc0 hl0 hy0
                go_wp2
                go_quiet (fail)
                go_wp2
                go_roundw
                case rel => exact ⟨k + 1, by omega, by go_num, by simp [Pv.cnt, HE.out], HK.out.drewN _⟩
                case measure => simp [intOf]; omega
            · obtain rfl : k = n1 := by omega
              have HF : Hid (Below w.heap.size w wr) := B8.out.trans (HK.out.bel.mono B8.out.size)
              go_wp2
              go_ret
              exact ⟨ret_bool (by simp), HF.out⟩

theorem counts (dims cov : Int) (a1 a2 a3 a4 a6 : Option Addr) (n1 c1 n2 c2 n3 c3 n4 c4 n6 c6 : Nat) (A : Nat → Option Addr) (C : Nat → Nat) (CL : Nat → List Int) (H O S4 S6 : List Int) (w : World) (h3 : HasRows w a3 n3 A C CL)
    (hl1 : H.length = n1) (hl2 : O.length = n2) (hl4 : S4.length = n4) (hl6 : S6.length = n6)
    (hnil1 : a1 = none → n1 = 0 ∧ c1 = 0) (hnil2 : a2 = none → n2 = 0 ∧ c2 = 0) (hnil3 : a3 = none → n3 = 0 ∧ c3 = 0) (hnil4 : a4 = none → n4 = 0 ∧ c4 = 0) (hnil6 : a6 = none → n6 = 0 ∧ c6 = 0)
    (h1 : Has .i32 w a1 H) (h2 : Has .i32 w a2 O) (h4 : Has .i32 w a4 S4) (h6 : Has .i32 w a6 S6) (b1 : ∀ i, -2147483648 ≤ H.getD i 0 ∧ H.getD i 0 ≤ 2147483647) (b2 : ∀ i, -2147483648 ≤ O.getD i 0 ∧ O.getD i 0 ≤ 2147483647)
    (hrow : ∀ r, r < n3 → (A r = none → (CL r).length = 0 ∧ C r = 0) ∧ (∀ i, -2147483648 ≤ (CL r).getD i 0 ∧ (CL r).getD i 0 ≤ 2147483647)) :
    Calls Try.prog 5 #[.int .i64 dims, .slice a1 n1 c1, .slice a2 n2 c2, .slice a3 n3 c3, .slice a4 n4 c4, .int .i64 cov, .slice a6 n6 c6] w fun e w' => e = .returned (.bool true) ∧ Below w.heap.size w w' := by
  by_cases hbig : 262144 < n1 ∨ 262144 < n2 ∨ 262144 < n4 ∨ 262144 < n6 ∨ 65536 < n3
  · exact counts_big dims cov a1 a2 a3 a4 a6 n1 c1 n2 c2 n3 c3 n4 c4 n6 c6 A C CL w h3 hbig
  · exact counts_small dims cov a1 a2 a3 a4 a6 n1 c1 n2 c2 n3 c3 n4 c4 n6 c6 A C CL H O S4 S6 w h3 (by omega) (by omega) (by omega) (by omega) (by omega) hl1 hl2 hl4 hl6 hnil1 hnil2 hnil3 hnil4 hnil6 h1 h2 h4 h6 b1 b2 hrow
end Go.Proofs.Qxb6603178a
