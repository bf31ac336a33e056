/-
  Seat b6603178a: 'fromHolders' (27), 'ZZFromHolders' (11), 'ZZFields' (12).
-/
import Derived.Test.Qxb6603178aCover
import Derived.BigRegion
namespace Go.Proofs.Qxb6603178a
open Go.RowKit
set_option linter.unusedVariables false

theorem Try.info22 : (Try.prog.info? 22).map (fun i => (i.zero, i.size, i.bytes)) = some (some (.slice none 0 0), 1, 24) := by kernel_rfl

/-- Four new blocks. -/
theorem made4 {w W : World} {A B C D : Obj} (h : ((((w.alloc A).alloc B).alloc C).alloc D).drew = W) :
    W.heap[w.heap.size]? = some A ∧ W.heap[w.heap.size + 1]? = some B ∧ W.heap[w.heap.size + 1 + 1]? = some C ∧ W.heap[w.heap.size + 1 + 1 + 1]? = some D ∧ W.heap.size = w.heap.size + 4 ∧ Below w.heap.size w W := by
  subst h
  refine ⟨?_, ?_, ?_, ?_, ?_, ?_⟩
  · show ((((w.alloc A).alloc B).alloc C).alloc D).heap[w.heap.size]? = some A
    rw [Deep.blk_alloc_lt _ _ _ (by simp only [Deep.nblk_alloc]; omega), Deep.blk_alloc_lt _ _ _ (by simp only [Deep.nblk_alloc]; omega), Deep.blk_alloc_lt _ _ _ (by simp only [Deep.nblk_alloc]; omega), Deep.blk_alloc_new]
  · show ((((w.alloc A).alloc B).alloc C).alloc D).heap[w.heap.size + 1]? = some B
    rw [Deep.blk_alloc_lt _ _ _ (by simp only [Deep.nblk_alloc]; omega), Deep.blk_alloc_lt _ _ _ (by simp only [Deep.nblk_alloc]; omega)]
    have := Deep.blk_alloc_new (w.alloc A) B
    rwa [Deep.nblk_alloc] at this
  · show ((((w.alloc A).alloc B).alloc C).alloc D).heap[w.heap.size + 1 + 1]? = some C
    rw [Deep.blk_alloc_lt _ _ _ (by simp only [Deep.nblk_alloc]; omega)]
    have := Deep.blk_alloc_new ((w.alloc A).alloc B) C
    rwa [Deep.nblk_alloc, Deep.nblk_alloc] at this
  · show ((((w.alloc A).alloc B).alloc C).alloc D).heap[w.heap.size + 1 + 1 + 1]? = some D
    have := Deep.blk_alloc_new (((w.alloc A).alloc B).alloc C) D
    rwa [Deep.nblk_alloc, Deep.nblk_alloc, Deep.nblk_alloc] at this
  · show ((((w.alloc A).alloc B).alloc C).alloc D).heap.size = w.heap.size + 4
    simp only [Deep.nblk_alloc]
  · exact (((((Below.refl _ w).alloc (Nat.le_refl _) A).alloc (by simp only [Deep.nblk_alloc]; omega) B).alloc (by simp only [Deep.nblk_alloc]; omega) C).alloc (by simp only [Deep.nblk_alloc]; omega) D).drew

theorem row_made {W : World} {b n : Nat} {z : Value} {t : TypeId} (h : W.heap[b]? = some (.cells (madeCells #[z] n) t)) : W.rowIs b t n (fun _ => z) := by
  obtain ⟨c, hc, h2, h3⟩ := World.rowIs_made W z n t
  have e : c = madeCells #[z] n := by
    rw [Deep.blk_alloc_new] at hc
    simp only [Option.some.injEq, Obj.cells.injEq, and_true] at hc
    exact hc.symm
  subst e
  exact ⟨_, h, h2, h3⟩

theorem cube_start {w W : World} {P CV SL NR HB n1 n2 hc : Nat} {ha : Option Addr} {ov : Value} {dims : Int} {H : List Int} (hP : W.heap[P]? = some (.cells (fields dims (.slice ha n1 hc) ov CV SL NR n1 n2 0) 45))
    (hCV : W.heap[CV]? = some (.cells (madeCells #[.slice none 0 0] n2) 22)) (hSL : W.heap[SL]? = some (.cells (madeCells #[.int .i32 0] n1) 21)) (hNR : W.heap[NR]? = some (.cells (madeCells #[.int .i32 0] n1) 21))
    (hs : W.heap.size = w.heap.size + 4) (hb : Below w.heap.size w W) (hH : Cloned w ha HB n1 hc H) (hlt : w.heap.size ≤ P ∧ w.heap.size ≤ CV ∧ w.heap.size ≤ SL ∧ w.heap.size ≤ NR ∧ P < w.heap.size + 4 ∧ CV < w.heap.size + 4 ∧ SL < w.heap.size + 4 ∧ NR < w.heap.size + 4)
    (hne : P ≠ CV ∧ P ≠ SL ∧ P ≠ NR ∧ CV ≠ SL ∧ CV ≠ NR ∧ SL ≠ NR) :
    Cube W (w.heap.size + 4) P CV SL NR HB (.slice ha n1 hc) ov dims n1 n2 (fun x => H.getD x 0) (fun _ => .slice none 0 0) (fun _ => []) (fun _ => 0) 0 := by
  refine ⟨hP, row_made hCV, row_made hSL, row_made hNR, fun hn => ?_, fun v hv => World.ownsRow_nil _ _ _ _, fun v hv _ => rfl, fun v v' _ _ _ g hg => by simp [Value.ownBlock] at hg, ⟨by omega, by omega, by omega, by omega, by omega⟩, hne⟩
  rcases hH with h | ⟨h1, h2, h3⟩
  · exact absurd h hn
  · have := h3.lt
    exact ⟨by rw [h1, h2], h3.of_block (hb.block HB this), by omega, by omega, by omega, by omega⟩

section
variable {w : World} {base P CV SL NR HB : Nat} {hv ov : Value} {dims : Int} {n1 n2 : Nat} {Hf : Nat → Int} {LV : Nat → Value} {c : Int} {H O : List Int} {k : Nat}

theorem Cube.zero (h : Cube w base P CV SL NR HB hv ov dims n1 n2 Hf LV (fun _ => []) (fun _ => 0) 0) : Cube w base P CV SL NR HB hv ov dims n1 n2 Hf LV (Pl.lst H O 0) (Pl.slt H O 0) (Pl.cov H O 0) := by
  have e1 : Pl.lst H O 0 = fun _ => [] := funext fun v => by simp [Pl.lst]
  have e2 : Pl.slt H O 0 = fun _ => 0 := funext fun v => by simp [Pl.slt]
  rw [e1, e2]
  exact h
theorem Cube.hit {p : Nat} (hp : Pl.peer H k = p) (hcv : Pl.cvd H O k = true) (h : Cube w base P CV SL NR HB hv ov dims n1 n2 Hf LV (fun i => if i = p then Pl.lst H O k p ++ [(k : Int)] else Pl.lst H O k i) (fun i => if i = k then ((Pl.lst H O k p).length : Int) else Pl.slt H O k i) ((Pl.cov H O k : Int) + 1)) :
    Cube w base P CV SL NR HB hv ov dims n1 n2 Hf LV (Pl.lst H O (k + 1)) (Pl.slt H O (k + 1)) (Pl.cov H O (k + 1)) := by
  have e1 : Pl.lst H O (k + 1) = fun i => if i = p then Pl.lst H O k p ++ [(k : Int)] else Pl.lst H O k i := funext fun i => by
    by_cases e : i = p
    · subst e; rw [if_pos rfl]; exact Pl.lst_hit hp hcv
    · rw [if_neg e]; exact Pl.lst_miss (fun h => e (by rw [← h.1, hp]))
  have e2 : Pl.slt H O (k + 1) = fun i => if i = k then ((Pl.lst H O k p).length : Int) else Pl.slt H O k i := funext fun i => by
    rw [Pl.slt_step H O k i hcv, hp]
  have e3 : ((Pl.cov H O (k + 1) : Nat) : Int) = (Pl.cov H O k : Int) + 1 := by simp [Pl.cov, hcv]
  rw [e1, e2, e3]
  exact h
theorem Cube.miss (hcv : Pl.cvd H O k = false) (h : Cube w base P CV SL NR HB hv ov dims n1 n2 Hf LV (Pl.lst H O k) (Pl.slt H O k) (Pl.cov H O k)) :
    Cube w base P CV SL NR HB hv ov dims n1 n2 Hf LV (Pl.lst H O (k + 1)) (Pl.slt H O (k + 1)) (Pl.cov H O (k + 1)) := by
  have e1 : Pl.lst H O (k + 1) = Pl.lst H O k := funext fun i => Pl.lst_no hcv i
  have e2 : Pl.slt H O (k + 1) = Pl.slt H O k := funext fun i => Pl.slt_no H O k i hcv
  have e3 : Pl.cov H O (k + 1) = Pl.cov H O k := by simp [Pl.cov, hcv]
  rw [e1, e2, e3]
  exact h
end

set_option maxRecDepth 100000 in
set_option maxHeartbeats 6400000 in
theorem from_any (w : World) (HB OB : Nat) (ha oa : Option Addr) (hc oc : Nat) (dims : Int) (n1 n2 : Nat) (H O : List Int) (hlH : H.length = n1) (hlO : O.length = n2) (hn1 : n1 ≤ 262144) (hn2 : n2 ≤ 262144) (hin : inR H n2) (hO32 : ∀ i, -2147483648 ≤ O.getD i 0 ∧ O.getD i 0 ≤ 2147483647)
    (hH : Cloned w ha HB n1 hc H) (hO : Cloned w oa OB n2 oc O) (hHB : HB ≤ w.heap.size) (hne : n2 ≠ 0 → HB ≠ OB) :
    Calls Try.prog 27 #[.int .i64 dims, .slice ha n1 hc, .slice oa n2 oc] w fun e w' => ∃ base P CV SL NR LV, e = .returned (.pointer (some ⟨P, 0, none⟩)) ∧
      Cube w' base P CV SL NR HB (.slice ha n1 hc) (.slice oa n2 oc) dims n1 n2 (fun x => H.getD x 0) LV (Pl.lst H O n1) (Pl.slt H O n1) (Pl.cov H O n1) ∧ Below HB w w' ∧ Cloned w' oa OB n2 oc O := by
  have hm1 := run_make_row' (P := Try.prog) 22 21 (.int .i32 0) 4 Try.underlying22 Try.info21 rfl .i64 .i64 n1 (by omega) (by omega)
  have hm2 := run_make_row' (P := Try.prog) 28 22 (.slice none 0 0) 24 Try.underlying28 Try.info22 rfl .i64 .i64 n2 (by omega) (by omega)
  have HLH : Hid (H.length = n1) := hlH
  have HLO : Hid (O.length = n2) := hlO
  have HIN : Hid (inR H n2) := hin
  have HO32 : Hid (∀ i, -2147483648 ≤ O.getD i 0 ∧ O.getD i 0 ≤ 2147483647) := hO32
  have HH : Hid (Cloned w ha HB n1 hc H) := hH
  have HO : Hid (Cloned w oa OB n2 oc O) := hO
  have HNE : Hid (n2 ≠ 0 → HB ≠ OB) := hne
  clear hlH hlO hin hH hO hne hO32
  go_enter Try.func27, Try.ntmps27
  go_wp2
  go_region
  all_goals
    clear hm1 hm2
    generalize hW : (World.alloc _ _).drew = W
    obtain ⟨b0, b1, b2, b3, bs, bb⟩ := made4 hW
    obtain ⟨CV, SL, NR, hlt3, hC⟩ : ∃ CV SL NR, (w.heap.size ≤ CV ∧ w.heap.size ≤ SL) ∧ Cube W (w.heap.size + 4) (w.heap.size + 1 + 1 + 1) CV SL NR HB (.slice ha n1 hc) (.slice oa n2 oc) dims n1 n2 (fun x => H.getD x 0) (fun _ => .slice none 0 0) (fun _ => []) (fun _ => 0) 0 := by
      first
      | exact ⟨w.heap.size, w.heap.size + 1, w.heap.size + 1 + 1, by omega, cube_start b3 b0 b1 b2 bs bb HH.out (by omega) (by omega)⟩
      | exact ⟨w.heap.size, w.heap.size + 1 + 1, w.heap.size + 1, by omega, cube_start b3 b0 b2 b1 bs bb HH.out (by omega) (by omega)⟩
      | exact ⟨w.heap.size + 1, w.heap.size, w.heap.size + 1 + 1, by omega, cube_start b3 b1 b0 b2 bs bb HH.out (by omega) (by omega)⟩
      | exact ⟨w.heap.size + 1, w.heap.size + 1 + 1, w.heap.size, by omega, cube_start b3 b1 b2 b0 bs bb HH.out (by omega) (by omega)⟩
      | exact ⟨w.heap.size + 1 + 1, w.heap.size, w.heap.size + 1, by omega, cube_start b3 b2 b0 b1 bs bb HH.out (by omega) (by omega)⟩
      | exact ⟨w.heap.size + 1 + 1, w.heap.size + 1, w.heap.size, by omega, cube_start b3 b2 b1 b0 bs bb HH.out (by omega) (by omega)⟩
    clear b0 b1 b2 b3 hW
    have HC := hide hC
    have HBB := hide bb
    clear hC bb
    go_wp2
    go_loopw [26] (fun i wr => ∃ (k : Nat) (LV : Nat → Value), k ≤ n1 ∧ i = .int .i64 k ∧ Hid (Cube wr (w.heap.size + 4) (w.heap.size + 1 + 1 + 1) CV SL NR HB (.slice ha n1 hc) (.slice oa n2 oc) dims n1 n2 (fun x => H.getD x 0) LV (Pl.lst H O k) (Pl.slt H O k) (Pl.cov H O k)) ∧ Hid (Kept (w.heap.size + 4) HB (w.heap.size + 1 + 1 + 1) CV SL W wr)) (fun i _ => n1 - (intOf i).toNat)
    case atStart => exact ⟨0, _, Nat.zero_le _, rfl, HC.out.zero, Kept.refl _ _ _ _ _ _⟩
    case round =>
      clear HC
      obtain ⟨k, LV, hk, rfl, HC, HK⟩ := hrel
      by_cases hlt : k < n1
      · have hkz : (k : Int) < (n1 : Int) := by omega
        have hn10 : n1 ≠ 0 := by omega
        obtain ⟨hx1, hx2, hrow⟩ := HH.out.resolve_left hn10
        have hin := HIN.out k (by rw [HLH.out]; exact hlt)
        obtain ⟨p, hp⟩ := Int.eq_ofNat_of_zero_le hin.1
        have hp2 : p < n2 := by omega
        have hpz : (p : Int) < (n2 : Int) := by omega
        obtain ⟨hy1, hy2, hrowO⟩ := HO.out.resolve_left (by omega)
        have hOBlt := hrowO.lt
        have g1 : wr.cell? ⟨HB, k, none⟩ = some (.int .i32 (p : Int)) := by
          rw [((HC.out.hb hn10).2.1).cell hlt, hp]
        have g2 : wr.cell? ⟨OB, p, none⟩ = some (.int .i32 (O.getD p 0)) := by
          have e : wr.heap[OB]? = w.heap[OB]? := (HK.out.oth OB (by omega) (fun e => HNE.out (by omega) e.symm) (by omega) (by omega) (by omega)).trans (HBB.out.block OB hOBlt)
          rw [World.cell?_of_block (a := ⟨OB, p, none⟩) e, hrowO.cell hp2]
        have HP : Hid (H.getD k 0 = (p : Int)) := hp
        have HPP : Hid (Pl.peer H k = p) := by show Pl.peer H k = p; unfold Pl.peer; rw [hp]; rfl
        obtain ⟨hq0, hq1⟩ := HO32.out p
        obtain ⟨q, hq⟩ : ∃ q, q = O.getD p 0 := ⟨_, rfl⟩
        rw [← hq] at g2 hq0 hq1
        have HQ : Hid (q = O.getD p 0) := hq
        clear hq hp hin hrow hrowO hOBlt
        have hx2 := hx2.symm
        have hy2 := hy2.symm
        subst hx1 hx2 hy1 hy2
        have hcl := Pl.cov_le H O k
        have hll := Pl.lst_len H O k p
        by_cases hcv : q = (k : Int)
        · have HCV : Hid (Pl.cvd H O k = false) := by show Pl.cvd H O k = false; unfold Pl.cvd; rw [HPP.out, ← HQ.out, hcv]; simp
          have hd : (q != (k : Int)) = false := by simp [hcv]
          clear hcv
          go_wp2
          go_roundw
          case rel => exact ⟨k + 1, LV, by omega, by go_num, HC.out.miss HCV.out, HK.out⟩
          case measure => simp [intOf]; omega
        · have HCV : Hid (Pl.cvd H O k = true) := by show Pl.cvd H O k = true; unfold Pl.cvd; rw [HPP.out, ← HQ.out]; simp [hcv]
          have hd : (q != (k : Int)) = true := by simp [hcv]
          clear hcv
          go_wp2_with fail
          refine (cover_any wr (w.heap.size + 4) (w.heap.size + 1 + 1 + 1) CV SL NR HB _ _ dims n1 n2 (fun x => H.getD x 0) LV (Pl.lst H O k) (Pl.slt H O k) (Pl.cov H O k) k p HC.out hlt hp2 HP.out.symm (by omega) (by omega) (by omega) (by omega) (by omega)).mono ?_
          rintro e w' ⟨rfl, LV', hC', hK'⟩
          have HC' := hide (Cube.hit HPP.out HCV.out hC')
          have HK' := hide (HK.out.trans hK')
          clear hC' hK'
          go_wp2
          go_roundw
          case rel => exact ⟨k + 1, LV', by omega, by go_num, HC'.out, HK'.out⟩
          case measure => simp [intOf]; omega
      · obtain rfl : k = n1 := by omega
        have hfin : Hid (Cloned wr oa OB n2 oc O) := HO.out.of_block (fun hn2' => by
          obtain ⟨hy1, hy2, hrowO⟩ := HO.out.resolve_left hn2'
          have hOBlt := hrowO.lt
          exact (HK.out.oth OB (by omega) (fun e => HNE.out hn2' e.symm) (by omega) (by omega) (by omega)).trans (HBB.out.block OB hOBlt))
        go_wp2
        go_ret
        exact ⟨_, _, CV, SL, NR, LV, rfl, HC.out, (HBB.out.mono hHB).trans HK.out.bel, hfin.out⟩

theorem zzfrom_any (w : World) (HB OB : Nat) (ha oa : Option Addr) (hc oc : Nat) (dims : Int) (n1 n2 : Nat) (H O : List Int) (hlH : H.length = n1) (hlO : O.length = n2) (hn1 : n1 ≤ 262144) (hn2 : n2 ≤ 262144) (hin : inR H n2) (hO32 : ∀ i, -2147483648 ≤ O.getD i 0 ∧ O.getD i 0 ≤ 2147483647)
    (hH : Cloned w ha HB n1 hc H) (hO : Cloned w oa OB n2 oc O) (hHB : HB ≤ w.heap.size) (hne : n2 ≠ 0 → HB ≠ OB) :
    Calls Try.prog 11 #[.int .i64 dims, .slice ha n1 hc, .slice oa n2 oc] w fun e w' => ∃ base P CV SL NR LV, e = .returned (.pointer (some ⟨P, 0, none⟩)) ∧
      Cube w' base P CV SL NR HB (.slice ha n1 hc) (.slice oa n2 oc) dims n1 n2 (fun x => H.getD x 0) LV (Pl.lst H O n1) (Pl.slt H O n1) (Pl.cov H O n1) ∧ Below HB w w' ∧ Cloned w' oa OB n2 oc O := by
  have HF := hide (from_any w HB OB ha oa hc oc dims n1 n2 H O hlH hlO hn1 hn2 hin hO32 hH hO hHB hne)
  clear hlH hlO hin hO32 hH hO hne
  go_enter Try.func11, Try.ntmps11
  go_wp2_with fail
  refine HF.out.mono ?_
  rintro e w' ⟨base, P, CV, SL, NR, LV, rfl, h1, h2, h3⟩
  have H1 := hide h1
  have H2 := hide h2
  have H3 := hide h3
  clear h1 h2 h3 HF
  go_wp2
  go_ret
  exact ⟨base, P, CV, SL, NR, LV, rfl, H1.out, H2.out, H3.out⟩

set_option maxHeartbeats 1600000 in
theorem fields_any (w : World) (base P CV SL NR HB : Nat) (hv ov : Value) (dims : Int) (n1 n2 : Nat) (Hf : Nat → Int) (LV : Nat → Value) (ls : Nat → List Int) (S : Nat → Int) (c : Int) (h : Cube w base P CV SL NR HB hv ov dims n1 n2 Hf LV ls S c) :
    Calls Try.prog 12 #[.pointer (some ⟨P, 0, none⟩)] w fun e w' => e = .returned (.tuple (fields dims hv ov CV SL NR n1 n2 c)) ∧ ∃ q, w' = w.drewN q := by
  have g0 : w.cell? ⟨P, 0, none⟩ = some (.int .i64 dims) := h.cell (i := 0) rfl
  have g1 : w.cell? ⟨P, 1, none⟩ = some hv := h.cell (i := 1) rfl
  have g2 : w.cell? ⟨P, 2, none⟩ = some ov := h.cell (i := 2) rfl
  have g3 : w.cell? ⟨P, 3, none⟩ = some (.slice (some ⟨CV, 0, none⟩) n2 n2) := h.cell (i := 3) rfl
  have g4 : w.cell? ⟨P, 4, none⟩ = some (.slice (some ⟨SL, 0, none⟩) n1 n1) := h.cell (i := 4) rfl
  have g5 : w.cell? ⟨P, 5, none⟩ = some (.int .i64 c) := h.cell (i := 5) rfl
  have g6 : w.cell? ⟨P, 6, none⟩ = some (.slice (some ⟨NR, 0, none⟩) n1 n1) := h.cell (i := 6) rfl
  clear h
  go_enter Try.func12, Try.ntmps12
  go_wp2
  go_quiet (fail)
  go_wp2
  exact bodyPost_ret (v := .tuple (fields dims hv ov CV SL NR n1 n2 c)) (by simp [results, Try.results12, go_sem, fields]) rfl ⟨rfl, _, rfl⟩
end Go.Proofs.Qxb6603178a
