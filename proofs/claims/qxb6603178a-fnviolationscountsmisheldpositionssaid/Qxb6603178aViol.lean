/-
  Seat b6603178a: 'Violations' (15) and its closure (28).
-/
import Derived.Test.Qxb6603178aBase
import Derived.Test.Qxb6603178aPlain2
namespace Go.Proofs.Qxb6603178a
open Go.RowKit
set_option linter.unusedVariables false

theorem Try.info3 : (Try.prog.info? 3).map (fun i => (i.zero, i.size, i.bytes)) = some (some (.int .i64 0), 1, 8) := by kernel_rfl

/-- The rows of 'covers' as they lie in memory: row r holds the numbers 'CL r'. -/
structure Rows1 (w : World) (A : Option Addr) (C : Nat) (l : List Int) : Prop where
  has : Has .i32 w A l
  nil : A = none → l.length = 0 ∧ C = 0
def HasRows (w : World) (a : Option Addr) (n : Nat) (A : Nat → Option Addr) (C : Nat → Nat) (CL : Nat → List Int) : Prop :=
  n = 0 ∨ ∃ b off, a = some ⟨b, off, none⟩ ∧ ∀ r, r < n → w.cell? ⟨b, off + r, none⟩ = some (.slice (A r) (CL r).length (C r)) ∧ Has .i32 w (A r) (CL r)

theorem HasRows.below {w w' : World} {a : Option Addr} {n : Nat} {A : Nat → Option Addr} {C : Nat → Nat} {CL : Nat → List Int} (h : HasRows w a n A C CL) (hb : Below w.heap.size w w') : HasRows w' a n A C CL := by
  rcases h with h | ⟨b, off, ha, hc⟩
  · exact .inl h
  · refine .inr ⟨b, off, ha, fun r hr => ⟨?_, (hc r hr).2.below hb⟩⟩
    rw [hb.cell (p := ⟨b, off + r, none⟩) (World.block_lt_of_cell? _ _ (hc r hr).1)]
    exact (hc r hr).1

/-- The closure 'hold': one claim of position x by peer v. -/
theorem hold_any (w : World) (B0 B3 K P b off n1 hc v x : Nat) (H : List Int) (h0 : Nat)
    (g0 : w.cell? ⟨B0, 0, none⟩ = some (.pointer (some ⟨P, 0, none⟩))) (g1 : w.cell? ⟨P, 1, none⟩ = some (.slice (some ⟨b, off, none⟩) n1 hc)) (g2 : w.cell? ⟨b, off + x, none⟩ = some (.int .i32 (H.getD x 0)))
    (g3 : w.cell? ⟨B3, 0, none⟩ = some (.slice (some ⟨K, 0, none⟩) n1 n1)) (g4 : w.cell? ⟨K, x, none⟩ = some (.int .i64 h0)) (g5 : w.frozen? ⟨K, x, none⟩ = false) (hx : x < n1) (hv : v ≤ 1048576) (hh : h0 ≤ 1125899906842624) :
    Calls Try.prog 28 #[.int .i64 v, .int .i32 x, .pointer (some ⟨B0, 0, none⟩), .pointer (some ⟨B3, 0, none⟩)] w fun e w' => e = .returned (.tuple #[]) ∧ w' = w.setCell ⟨K, x, none⟩ (.int .i64 ((h0 + Pv.add1 H x v : Nat) : Int)) := by
  have hxz : (x : Int) < (n1 : Int) := by omega
  by_cases e : H.getD x 0 = (v : Int)
  · have HA : Hid (Pv.add1 H x v = 1) := by show Pv.add1 H x v = 1; unfold Pv.add1; rw [if_pos e]
    rw [e] at g2
    clear e
    have hd : ((v : Int) == (v : Int)) = true := by simp
    go_enter Try.func28, Try.ntmps28
    go_wp2
    go_end0
    exact ⟨rfl, by rw [HA.out]; rfl⟩
  · have HA : Hid (Pv.add1 H x v = 2) := by show Pv.add1 H x v = 2; unfold Pv.add1; rw [if_neg e]
    obtain ⟨q, hq⟩ : ∃ q, q = H.getD x 0 := ⟨_, rfl⟩
    rw [← hq] at g2 e
    have hd : (q == (v : Int)) = false := by simp [e]
    clear e hq
    go_enter Try.func28, Try.ntmps28
    go_wp2
    go_end0
    exact ⟨rfl, by rw [HA.out]; rfl⟩

/-- Three new blocks. -/
theorem made3 {w W : World} {A B C : Obj} (h : ((w.alloc A).alloc B).alloc C = W) :
    W.heap[w.heap.size]? = some A ∧ W.heap[w.heap.size + 1]? = some B ∧ W.heap[w.heap.size + 1 + 1]? = some C ∧ W.heap.size = w.heap.size + 3 ∧ Below w.heap.size w W := by
  subst h
  refine ⟨?_, ?_, ?_, ?_, ?_⟩
  · rw [Deep.blk_alloc_lt _ _ _ (by simp only [Deep.nblk_alloc]; omega), Deep.blk_alloc_lt _ _ _ (by simp only [Deep.nblk_alloc]; omega), Deep.blk_alloc_new]
  · rw [Deep.blk_alloc_lt _ _ _ (by simp only [Deep.nblk_alloc]; omega)]
    have := Deep.blk_alloc_new (w.alloc A) B
    rwa [Deep.nblk_alloc] at this
  · have := Deep.blk_alloc_new ((w.alloc A).alloc B) C
    rwa [Deep.nblk_alloc, Deep.nblk_alloc] at this
  · simp only [Deep.nblk_alloc]
  · exact (((Below.refl _ w).alloc (Nat.le_refl _) A).alloc (by simp only [Deep.nblk_alloc]; omega) B).alloc (by simp only [Deep.nblk_alloc]; omega) C

theorem row_made {W : World} {b n : Nat} {z : Value} {t : TypeId} (h : W.heap[b]? = some (.cells (madeCells #[z] n) t)) : W.rowIs b t n (fun _ => z) := by
  obtain ⟨c, hc, h2, h3⟩ := World.rowIs_made W z n t
  have e : c = madeCells #[z] n := by
    rw [Deep.blk_alloc_new] at hc
    simp only [Option.some.injEq, Obj.cells.injEq, and_true] at hc
    exact hc.symm
  subst e
  exact ⟨_, h, h2, h3⟩

theorem grow_set {W wr : World} {K x : Nat} {u : Value} (hg : W.grownBy wr (some K)) : W.grownBy (wr.setCell ⟨K, x, none⟩ u) (some K) :=
  ⟨hg.os, hg.tape, hg.output, by rw [Deep.nblk_setCell]; exact hg.size, fun k hk hne => by rw [Deep.blk_setCell_other _ _ _ _ (fun e => hne (by rw [e]))]; exact hg.block k hk hne⟩
theorem carry {w W wr : World} {K : Nat} (bb : Below w.heap.size w W) (hg : W.grownBy wr (some K)) (hK : w.heap.size ≤ K) : Below w.heap.size w wr :=
  ⟨hg.os.trans bb.os, hg.tape.trans bb.tape, hg.output.trans bb.output, Nat.le_trans bb.size hg.size, fun k hk => (hg.block k (by have := bb.size; omega) (fun e => by cases e; omega)).trans (bb.block k hk)⟩
theorem HasRows.at {w : World} {a : Option Addr} {n : Nat} {A : Nat → Option Addr} {C : Nat → Nat} {CL : Nat → List Int} (h : HasRows w a n A C CL) (hn : 0 < n) :
    ∃ b off, a = some ⟨b, off, none⟩ ∧ ∀ r, r < n → w.cell? ⟨b, off + r, none⟩ = some (.slice (A r) (CL r).length (C r)) ∧ Has .i32 w (A r) (CL r) := by
  rcases h with h | h
  · omega
  · exact h
theorem inR_nat {l : List Int} {n i : Nat} (h : inR l n) (hi : i < l.length) : ∃ x : Nat, l.getD i 0 = (x : Int) ∧ x < n ∧ (l.getD i 0).toNat = x := by
  have := h i hi
  exact ⟨(l.getD i 0).toNat, by omega, by omega, rfl⟩
/-- A claim's store, in the plain function's words. -/
theorem held_step {W wr : World} {K n1 x v : Nat} {H : List Int} {s : List (Nat × Nat)} (hx : x < n1) (hR : wr.rowIs K 3 n1 (fun y => .int .i64 (Pv.heldf H s y))) (hg : W.grownBy wr (some K)) :
    (wr.setCell ⟨K, x, none⟩ (.int .i64 ((Pv.heldf H s x + Pv.add1 H x v : Nat) : Int))).rowIs K 3 n1 (fun y => .int .i64 (Pv.heldf H (s ++ [(v, x)]) y)) ∧ W.grownBy (wr.setCell ⟨K, x, none⟩ (.int .i64 ((Pv.heldf H s x + Pv.add1 H x v : Nat) : Int))) (some K) := by
  refine ⟨(hR.set x _).congr (fun y _ => ?_), grow_set hg⟩
  rw [Pv.heldf_snoc]
  by_cases e : y = x
  · subst e; simp
  · simp [e]

set_option maxHeartbeats 3200000 in
theorem viol_any (w : World) (P n1 n2 n3 hc oc cc : Nat) (ha oa ca : Option Addr) (A : Nat → Option Addr) (C : Nat → Nat) (H O : List Int) (CL : Nat → List Int) (hlH : H.length = n1) (hlO : O.length = n2) (hn1 : n1 ≤ 262144) (hn2 : n2 ≤ 262144) (hn3 : n2 ≤ n3) (hn3' : n3 ≤ 1048576)
    (p1 : w.cell? ⟨P, 1, none⟩ = some (.slice ha n1 hc)) (p2 : w.cell? ⟨P, 2, none⟩ = some (.slice oa n2 oc)) (p3 : w.cell? ⟨P, 3, none⟩ = some (.slice ca n3 cc))
    (hH : Has .i32 w ha H) (hO : Has .i32 w oa O) (hCL : HasRows w ca n3 A C CL) (hin : inR O n1) (hinC : ∀ v, v < n2 → inR (CL v) n1) (hlen : ∀ v, v < n2 → (CL v).length ≤ 262144) :
    Calls Try.prog 15 #[.pointer (some ⟨P, 0, none⟩)] w fun e w' => e = .returned (.int .i64 (Pv.cnt (Pv.bad H (Pv.pre O CL n2)) n1)) ∧ Below w.heap.size w w' := by
  have hm3 := run_make_row' (P := Try.prog) 32 3 (.int .i64 0) 8 Try.underlying32 Try.info3 rfl .i64 .i64 n1 (by omega) (by omega)
  have HLH := hide hlH
  have HLO := hide hlO
  have HH := hide hH
  have HO := hide hO
  have HCL := hide hCL
  have HIN := hide hin
  have HINC := hide hinC
  have HLEN := hide hlen
  clear hlH hlO hH hO hCL hin hinC hlen
  have hP := World.block_lt_of_cell? _ _ p1
  have c3 : ∀ o1 o2 o3 i, (((w.alloc o1).alloc o2).alloc o3).cell? ⟨P, i, none⟩ = w.cell? ⟨P, i, none⟩ := fun o1 o2 o3 i => (made3 rfl).2.2.2.2.cell (p := ⟨P, i, none⟩) hP
  go_enter Try.func15, Try.ntmps15
  go_wp2
  clear hm3 c3
  generalize hW : ((w.alloc _).alloc _).alloc _ = W
  obtain ⟨b0, b1, b2, bs, bb⟩ := made3 hW
  have HR0 : W.rowIs (w.heap.size + 1) 3 n1 (fun _ => .int .i64 0) := row_made b1
  have g0 : W.cell? ⟨w.heap.size, 0, none⟩ = some (.pointer (some ⟨P, 0, none⟩)) := by rw [cell_of_row W _ 0 _ _ _ b0]; rfl
  have g3 : W.cell? ⟨w.heap.size + 1 + 1, 0, none⟩ = some (.slice (some ⟨w.heap.size + 1, 0, none⟩) n1 n1) := by rw [cell_of_row W _ 0 _ _ _ b2]; rfl
  have p1' : W.cell? ⟨P, 1, none⟩ = some (.slice ha n1 hc) := by rw [bb.cell (p := ⟨P, 1, none⟩) hP]; exact p1
  have p3' : W.cell? ⟨P, 3, none⟩ = some (.slice ca n3 cc) := by rw [bb.cell (p := ⟨P, 3, none⟩) hP]; exact p3
  have HHW := hide (HH.out.below bb)
  have HOW := hide (HO.out.below bb)
  have HCW := hide (HCL.out.below bb)
  have HBB := hide bb
  clear b0 b1 b2 hW p1' p3' HHW HOW HCW
  have HR0' := hide HR0
  have FB0 : Hid (∀ wr, W.grownBy wr (some (w.heap.size + 1)) → wr.cell? ⟨w.heap.size, 0, none⟩ = some (.pointer (some ⟨P, 0, none⟩))) := fun wr hg => hg.cell g0 (fun e => by simp at e)
  have FB3 : Hid (∀ wr, W.grownBy wr (some (w.heap.size + 1)) → wr.cell? ⟨w.heap.size + 1 + 1, 0, none⟩ = some (.slice (some ⟨w.heap.size + 1, 0, none⟩) n1 n1)) := fun wr hg => hg.cell g3 (fun e => by simp at e)
  have FW : Hid (∀ wr, W.grownBy wr (some (w.heap.size + 1)) → Below w.heap.size w wr) := fun wr hg => carry HBB.out hg (by omega)
  have P1 := hide p1
  have P3 := hide p3
  clear HR0 g0 g3 bb p1 p2 p3
  go_loopw [24] (fun i wr => ∃ v : Nat, v ≤ n2 ∧ i = .int .i64 v ∧ Hid (wr.rowIs (w.heap.size + 1) 3 n1 (fun x => .int .i64 (Pv.heldf H (Pv.pre O CL v) x))) ∧ Hid (W.grownBy wr (some (w.heap.size + 1)))) (fun i _ => n2 - (intOf i).toNat)
  case atStart => exact ⟨0, Nat.zero_le _, rfl, HR0'.out.congr (fun x _ => by simp [Pv.pre, Pv.heldf]), World.grownBy.refl _ _⟩
  case round =>
    obtain ⟨v, hv, rfl, HR, HG⟩ := hrel
    by_cases hlt : v < n2
    · have hvz : (v : Int) < (n2 : Int) := by omega
      have hB := FW.out wr HG.out
      obtain ⟨b2, off2, hy, hcO⟩ := (HO.out.below hB).at (by rw [HLO.out]; omega)
      obtain ⟨x, hx1, hx2, hx3⟩ := inR_nat HIN.out (i := v) (by rw [HLO.out]; exact hlt)
      obtain ⟨b, off, hx, hcH⟩ := (HH.out.below hB).at (by rw [HLH.out]; omega)
      have g2 : wr.cell? ⟨b2, off2 + v, none⟩ = some (.int .i32 (x : Int)) := by rw [hcO v (by rw [HLO.out]; exact hlt), hx1]
      have hll := Pv.pre_len O CL 262144 v (fun u hu => HLEN.out u (by omega))
      have hbig : Pv.heldf H (Pv.pre O CL v) x ≤ 1125899906842624 := by have := Pv.heldf_le H x (Pv.pre O CL v); omega
      have HCH := hide hcH
      have HX3 := hide hx3
      clear hcO hcH hB hx1 hx3 hll
      subst hx hy
      go_wp2_with fail
      refine (hold_any wr w.heap.size (w.heap.size + 1 + 1) (w.heap.size + 1) P b off n1 hc v x H (Pv.heldf H (Pv.pre O CL v) x) (FB0.out wr HG.out) (by rw [(FW.out wr HG.out).cell (p := ⟨P, 1, none⟩) hP]; exact P1.out) (HCH.out x (by rw [HLH.out]; exact hx2)) (FB3.out wr HG.out) (HR.out.cell hx2) (HR.out.frozen x) hx2 (by omega) hbig).mono ?_
      rintro e w5 ⟨rfl, hw5⟩
      obtain ⟨hR5, hG5⟩ := held_step (v := v) hx2 HR.out HG.out
      rw [← hw5] at hR5 hG5
      have HR5 : Hid (w5.rowIs (w.heap.size + 1) 3 n1 (fun y => .int .i64 (Pv.heldf H (Pv.mid O CL v 0) y))) := by
        rw [← HX3.out, ← Pv.mid_zero] at hR5; exact hR5
      have HG5 := hide hG5
      clear hR5 hG5 hw5 HR HG g2 hbig HCH
      have hB5 := FW.out w5 HG5.out
      obtain ⟨b3, off3, hz, hcC⟩ := (HCL.out.below hB5).at (by omega)
      have q0 := FB0.out w5 HG5.out
      have q1 : w5.cell? ⟨P, 3, none⟩ = some (.slice ca n3 cc) := by rw [hB5.cell (p := ⟨P, 3, none⟩) hP]; exact P3.out
      have q2 := (hcC v (by omega)).1
      have hvz3 : (v : Int) < (n3 : Int) := by omega
      have hmm := HLEN.out v hlt
      obtain ⟨m, hm⟩ : ∃ m, m = (CL v).length := ⟨_, rfl⟩
      rw [← hm] at q2 hmm
      have HM := hide hm
      obtain ⟨Av, hAv⟩ : ∃ Av, Av = A v := ⟨_, rfl⟩
      have HAV : Hid (Has .i32 w Av (CL v)) := by
        rw [hAv]
        obtain ⟨_, _, _, hc0⟩ := HCL.out.at (by omega)
        exact (hc0 v (by omega)).2
      rw [← hAv] at q2
      clear hB5 hcC hm hAv
      subst hz
      go_wp2
      clear q0 q1 q2 HX3
      go_loopw [41] (fun i wr => ∃ j : Nat, j ≤ m ∧ i = .int .i64 j ∧ Hid (wr.rowIs (w.heap.size + 1) 3 n1 (fun x => .int .i64 (Pv.heldf H (Pv.mid O CL v j) x))) ∧ Hid (W.grownBy wr (some (w.heap.size + 1)))) (fun i _ => m - (intOf i).toNat)
      case atStart => exact ⟨0, Nat.zero_le _, rfl, HR5.out, HG5.out⟩
      case round =>
        clear HR5 HG5
        obtain ⟨j, hj, rfl, HR, HG⟩ := hrel
        by_cases hltj : j < m
        · have hjz : (j : Int) < (m : Int) := by omega
          have hB := FW.out wr HG.out
          obtain ⟨b4, off4, hz4, hcL⟩ := (HAV.out.below hB).at (by rw [← HM.out]; omega)
          obtain ⟨x, hx1, hx2, hx3⟩ := inR_nat (HINC.out v hlt) (i := j) (by rw [← HM.out]; exact hltj)
          have hcH := (HH.out.below hB).at (by rw [HLH.out]; omega)
          have g2 : wr.cell? ⟨b4, off4 + j, none⟩ = some (.int .i32 (x : Int)) := by rw [hcL j (by rw [← HM.out]; exact hltj), hx1]
          have hll := Pv.mid_len O CL 262144 v j (fun u hu => HLEN.out u (by omega))
          have hbig : Pv.heldf H (Pv.mid O CL v j) x ≤ 1125899906842624 := by have := Pv.heldf_le H x (Pv.mid O CL v j); omega
          obtain ⟨b', off', hbo, hcH⟩ := hcH
          have HBO := hide hbo
          have HCH := hide hcH
          have HX3 := hide hx3
          clear hcL hcH hB hx1 hx3 hll hbo
          subst hz4
          go_wp2_with fail
          refine (hold_any wr w.heap.size (w.heap.size + 1 + 1) (w.heap.size + 1) P b' off' n1 hc v x H (Pv.heldf H (Pv.mid O CL v j) x) (FB0.out wr HG.out) (by rw [(FW.out wr HG.out).cell (p := ⟨P, 1, none⟩) hP, ← HBO.out]; exact P1.out) (HCH.out x (by rw [HLH.out]; exact hx2)) (FB3.out wr HG.out) (HR.out.cell hx2) (HR.out.frozen x) hx2 (by omega) hbig).mono ?_
          rintro e w6 ⟨rfl, hw6⟩
          obtain ⟨hR6, hG6⟩ := held_step (v := v) hx2 HR.out HG.out
          rw [← hw6] at hR6 hG6
          have HR6 : Hid (w6.rowIs (w.heap.size + 1) 3 n1 (fun y => .int .i64 (Pv.heldf H (Pv.mid O CL v (j + 1)) y))) := by
            rw [← HX3.out, ← Pv.mid_step O CL v j (by rw [← HM.out]; exact hltj)] at hR6; exact hR6
          have HG6 := hide hG6
          clear hR6 hG6 hw6 HR HG g2 hbig HCH
          go_wp2
          go_roundw
          case rel => exact ⟨j + 1, by omega, by go_num, HR6.out, HG6.out⟩
          case measure => simp [intOf]; omega
        · obtain rfl : j = m := by omega
          have HR7 : Hid (wr.rowIs (w.heap.size + 1) 3 n1 (fun y => .int .i64 (Pv.heldf H (Pv.pre O CL (v + 1)) y))) := by
            have := HR.out; rw [HM.out, Pv.mid_all] at this; exact this
          clear HR
          go_wp2
          go_roundw
          case rel => exact ⟨v + 1, by omega, by go_num, HR7.out, HG.out⟩
          case measure => simp [intOf]; omega
    · obtain rfl : v = n2 := by omega
      have q3 := FB3.out wr HG.out
      have HB9 := hide (FW.out wr HG.out)
      clear HG FB0 FB3 FW
      go_wp2
      go_loop [9, 53] (fun c i => ∃ k : Nat, k ≤ n1 ∧ i = .int .i64 k ∧ c = .int .i64 (Pv.cnt (Pv.bad H (Pv.pre O CL v)) k)) (fun _ i => n1 - (intOf i).toNat)
      case atStart => exact ⟨0, Nat.zero_le _, rfl, rfl⟩
      case round =>
        obtain ⟨k, hk, rfl, rfl⟩ := hrel
        by_cases hltk : k < n1
        · have hkz : (k : Int) < (n1 : Int) := by omega
          have q4 : wr.cell? ⟨w.heap.size + 1, k, none⟩ = some (.int .i64 (Pv.heldf H (Pv.pre O CL v) k)) := HR.out.cell hltk
          have hcl := Pv.cnt_le (Pv.bad H (Pv.pre O CL v)) k
          obtain ⟨h0, hh0⟩ : ∃ h0, h0 = Pv.heldf H (Pv.pre O CL v) k := ⟨_, rfl⟩
          rw [← hh0] at q4
          by_cases e : h0 = 1
          · have HE : Hid (Pv.bad H (Pv.pre O CL v) k = false) := by show Pv.bad H (Pv.pre O CL v) k = false; simp [Pv.bad, ← hh0, e]
            subst e
            clear hh0
            go_wp2
            go_round
            case rel => exact ⟨k + 1, by omega, by go_num, by simp [Pv.cnt, HE.out]⟩
            case measure => simp [intOf]; omega
          · have HE : Hid (Pv.bad H (Pv.pre O CL v) k = true) := by show Pv.bad H (Pv.pre O CL v) k = true; simp [Pv.bad, ← hh0, e]
            have hd : ((h0 : Int) != 1) = true := by simp; omega
            clear hh0 e
            go_wp2
            go_round
            case rel => exact ⟨k + 1, by omega, by go_num, by simp [Pv.cnt, HE.out]⟩
            case measure => simp [intOf]; omega
        · obtain rfl : k = n1 := by omega
          go_wp2
          go_ret
          exact ⟨rfl, HB9.out⟩
end Go.Proofs.Qxb6603178a
