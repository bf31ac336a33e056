/-
  Seat b6603178a: 'zzClone2' (19), 'ZZMakeCube' (18), 'zzCoversFit' (17), 'zzBytes_..' (16).
-/
import Derived.Test.Qxb6603178aViol
namespace Go.Proofs.Qxb6603178a
open Go.RowKit
set_option linter.unusedVariables false

theorem Try.info22 : (Try.prog.info? 22).map (fun i => (i.zero, i.size, i.bytes)) = some (some (.slice none 0 0), 1, 24) := by kernel_rfl

theorem Has.set {w : World} {a : Option Addr} {l : List Int} (h : Has .i32 w a l) {p : Addr} {ao : Option Addr} {m c : Nat} (hp : w.cell? p = some (.slice ao m c)) (u : Value) : Has .i32 (w.setCell p u) a l := by
  rcases h with h | ⟨b, off, ha, hc⟩
  · exact .inl h
  · refine .inr ⟨b, off, ha, fun i hi => ?_⟩
    rw [World.cell?_setCell_other _ _ _ _ (fun e => by rw [e, hc i hi] at hp; simp at hp)]
    exact hc i hi

def sA : Value → Option Addr
  | .slice a _ _ => a
  | _ => none
def sC : Value → Nat
  | .slice _ _ c => c
  | _ => 0

/-- How far the copy has come. -/
structure Copied (w wr : World) (n k : Nat) (f : Nat → Value) (CL : Nat → List Int) : Prop where
  row : wr.rowIs w.heap.size 22 n f
  todo : ∀ r, k ≤ r → r < n → f r = .slice none 0 0
  done : ∀ r, r < k → ∃ a c, f r = .slice a (CL r).length c ∧ Has .i32 wr a (CL r)
  bel : Below w.heap.size w wr

theorem Copied.step {w wr w5 : World} {n k c' : Nat} {f : Nat → Value} {CL : Nat → List Int} {a' : Option Addr} (h : Copied w wr n k f CL) (hk : k < n) (hb : Below wr.heap.size wr w5) (hcl : Cloned w5 a' wr.heap.size (CL k).length c' (CL k)) :
    Copied w (w5.setCell ⟨w.heap.size, k, none⟩ (.slice a' (CL k).length c')) n (k + 1) (fun i => if i = k then .slice a' (CL k).length c' else f i) CL := by
  have hrow5 : w5.rowIs w.heap.size 22 n f := h.row.of_block (hb.block _ h.row.lt)
  have hck : w5.cell? ⟨w.heap.size, k, none⟩ = some (.slice none 0 0) := by rw [hrow5.cell hk, h.todo k (Nat.le_refl _) hk]
  refine ⟨hrow5.set k _, fun r h1 h2 => ?_, fun r hr => ?_, (h.bel.trans (hb.mono h.bel.size)).setCell (p := ⟨w.heap.size, k, none⟩) (Nat.le_refl _) _⟩
  · rw [if_neg (by omega)]; exact h.todo r (by omega) h2
  · by_cases e : r = k
    · subst e
      exact ⟨a', c', by rw [if_pos rfl], (hcl.has rfl).set hck _⟩
    · obtain ⟨a, c, h1, h2⟩ := h.done r (by omega)
      exact ⟨a, c, by rw [if_neg e]; exact h1, (h2.below hb).set hck _⟩

theorem Copied.rows {w wr : World} {n : Nat} {f : Nat → Value} {CL : Nat → List Int} (h : Copied w wr n n f CL) : HasRows wr (some ⟨w.heap.size, 0, none⟩) n (fun r => sA (f r)) (fun r => sC (f r)) CL := by
  refine .inr ⟨w.heap.size, 0, rfl, fun r hr => ?_⟩
  obtain ⟨a, c, h1, h2⟩ := h.done r hr
  have e1 : sA (f r) = a := by rw [h1]; rfl
  have e2 : sC (f r) = c := by rw [h1]; rfl
  show wr.cell? ⟨w.heap.size, 0 + r, none⟩ = some (.slice (sA (f r)) (CL r).length (sC (f r))) ∧ Has .i32 wr (sA (f r)) (CL r)
  rw [Nat.zero_add, h.row.cell hr, e1, e2, h1]
  exact ⟨rfl, h2⟩

theorem clone2_nil (w : World) : Calls Try.prog 19 #[.slice none 0 0] w fun e w' => e = .returned (.slice none 0 0) ∧ w' = w := by
  have q28 : ∀ (w : World) (a : Option Addr) (n c n' c' : Nat), (binOp .eql 28 (.slice a n c) (.slice none n' c')).run Try.prog w = .ok (.bool a.isNone) w := fun w a n c n' c' => Lib.run_eql_slice_nil w _ _ a n c n' c' Try.underlying28
  go_enter Try.func19, Try.ntmps19
  go_wp2
  go_ret
  exact ⟨rfl, rfl⟩

set_option maxHeartbeats 1600000 in
theorem clone2_some (x : Addr) (n cap : Nat) (A : Nat → Option Addr) (C : Nat → Nat) (CL : Nat → List Int) (w : World) (hn : n ≤ 65536) (h : HasRows w (some x) n A C CL) (hrow : ∀ r, r < n → (CL r).length ≤ 262144 ∧ (A r = none → (CL r).length = 0 ∧ C r = 0)) :
    Calls Try.prog 19 #[.slice (some x) n cap] w fun e w' => e = .returned (.slice (some ⟨w.heap.size, 0, none⟩) n n) ∧ ∃ f, Copied w w' n n f CL := by
  have q28 : ∀ (w : World) (a : Option Addr) (n c n' c' : Nat), (binOp .eql 28 (.slice a n c) (.slice none n' c')).run Try.prog w = .ok (.bool a.isNone) w := fun w a n c n' c' => Lib.run_eql_slice_nil w _ _ a n c n' c' Try.underlying28
  have hmk := run_make_row' (P := Try.prog) 28 22 (.slice none 0 0) 24 Try.underlying28 Try.info22 rfl .i64 .i64 n (by omega) (by omega)
  have HH := hide h
  have HROW := hide hrow
  clear h hrow
  go_enter Try.func19, Try.ntmps19
  go_wp2
  clear hmk q28
  go_loopw [4] (fun i wr => ∃ (k : Nat) (f : Nat → Value), k ≤ n ∧ i = .int .i64 k ∧ Hid (Copied w wr n k f CL)) (fun i _ => n - (intOf i).toNat)
  case atStart => exact ⟨0, fun _ => .slice none 0 0, Nat.zero_le _, rfl, ⟨World.rowIs_made w _ _ _, fun _ _ _ => rfl, fun r hr => absurd hr (Nat.not_lt_zero _), (Below.refl _ _).alloc (Nat.le_refl _) _⟩⟩
  case round =>
    obtain ⟨k, f, hk, rfl, HC⟩ := hrel
    by_cases hlt : k < n
    · have hkz : (k : Int) < (n : Int) := by omega
      obtain ⟨b, off, hx, hc⟩ := (HH.out.below HC.out.bel).at (by omega)
      obtain ⟨g1, g2⟩ := hc k hlt
      obtain ⟨r1, r2⟩ := HROW.out k hlt
      have hx' : x = ⟨b, off, none⟩ := by simpa using hx
      subst hx'
      obtain ⟨m, hm⟩ : ∃ m, m = (CL k).length := ⟨_, rfl⟩
      rw [← hm] at g1 r1 r2
      have HM := hide hm
      have HG2 := hide g2
      have HR2 := hide r2
      clear hm g2 r2 hc hx
      go_wp2_with fail
      refine (clone_any (A k) m (C k) (CL k) _ HM.out.symm (by omega) HR2.out HG2.out).mono ?_
      rintro e w5 ⟨a', c', rfl, hcl, hsz, hb⟩
      have hcl' : Cloned w5 a' wr.heap.size (CL k).length c' (CL k) := by rw [← HM.out]; exact hcl
      have HS := hide (HC.out.step hlt hb hcl')
      have hrow5 : w5.rowIs w.heap.size 22 n f := HC.out.row.of_block (hb.block _ HC.out.row.lt)
      have g3 : w5.cell? ⟨w.heap.size, k, none⟩ = some (.slice none 0 0) := by rw [hrow5.cell hlt, HC.out.todo k (Nat.le_refl _) hlt]
      have g4 : w5.frozen? ⟨w.heap.size, k, none⟩ = false := hrow5.frozen k
      clear hcl hcl' hsz hb hrow5 HC g1
      go_wp2
      go_roundw
      case rel => exact ⟨k + 1, _, by omega, by go_num, by rw [HM.out]; exact HS.out⟩
      case measure => simp [intOf]; omega
    · obtain rfl : k = n := by omega
      go_wp2
      go_ret
      exact ⟨rfl, f, HC.out⟩

theorem clone2_any (a : Option Addr) (n cap : Nat) (A : Nat → Option Addr) (C : Nat → Nat) (CL : Nat → List Int) (w : World) (hn : n ≤ 65536) (hnil : a = none → n = 0 ∧ cap = 0) (h : HasRows w a n A C CL) (hrow : ∀ r, r < n → (CL r).length ≤ 262144 ∧ (A r = none → (CL r).length = 0 ∧ C r = 0)) :
    Calls Try.prog 19 #[.slice a n cap] w fun e w' => ∃ a' c' A' C', e = .returned (.slice a' n c') ∧ HasRows w' a' n A' C' CL ∧ Below w.heap.size w w' := by
  match a, hnil, h with
  | none, hnil, h =>
    obtain ⟨rfl, rfl⟩ := hnil rfl
    refine (clone2_nil w).mono ?_
    rintro e w' ⟨rfl, rfl⟩
    exact ⟨none, 0, A, C, rfl, .inl rfl, Below.refl _ _⟩
  | some x, _, h =>
    refine (clone2_some x n cap A C CL w hn h hrow).mono ?_
    rintro e w' ⟨rfl, f, hf⟩
    exact ⟨_, _, _, _, rfl, hf.rows, hf.bel⟩

theorem make_any (w : World) (dims cov : Int) (a1 a2 a3 a4 a6 : Option Addr) (n1 c1 n2 c2 n3 c3 n4 c4 n6 c6 : Nat) :
    Calls Try.prog 18 #[.int .i64 dims, .slice a1 n1 c1, .slice a2 n2 c2, .slice a3 n3 c3, .slice a4 n4 c4, .int .i64 cov, .slice a6 n6 c6] w fun e w' =>
      e = .returned (.pointer (some ⟨w.heap.size, 0, none⟩)) ∧ w'.cell? ⟨w.heap.size, 1, none⟩ = some (.slice a1 n1 c1) ∧ w'.cell? ⟨w.heap.size, 2, none⟩ = some (.slice a2 n2 c2) ∧ w'.cell? ⟨w.heap.size, 3, none⟩ = some (.slice a3 n3 c3) ∧ Below w.heap.size w w' := by
  go_enter Try.func18, Try.ntmps18
  go_wp2
  go_ret
  exact ⟨rfl, by simp, by simp, by simp, (Below.refl _ _).alloc (Nat.le_refl _) _⟩

/-- It answers some Bool, of which Q holds. -/
def Answers (e : Ending) (Q : Bool → Prop) : Prop := ∃ b, e = .returned (.bool b) ∧ Q b
theorem Answers.mk {b : Bool} {Q : Bool → Prop} (h : Q b) : Answers (.returned (.bool b)) Q := ⟨b, rfl, h⟩
theorem Answers.out {e : Ending} {Q : Bool → Prop} (h : Answers e Q) : ∃ b, e = .returned (.bool b) ∧ Q b := h

/-- 'zzCoversFit': it answers; where it says yes no list is longer than 2^18. -/
theorem fit_any (flat : Int) (a : Option Addr) (n cap : Nat) (A : Nat → Option Addr) (C : Nat → Nat) (CL : Nat → List Int) (w : World) (hn : n ≤ 65536) (h : HasRows w a n A C CL) :
    Calls Try.prog 17 #[.int .i64 flat, .slice a n cap] w fun e w' => Answers e (fun b => b = true → ∀ r, r < n → (CL r).length ≤ 262144) ∧ w' = w := by
  have HH := hide h
  clear h
  have d1 : decide ((65536 : Int) < (n : Int)) = false := by simp; omega
  go_enter Try.func17, Try.ntmps17
  go_wp2
  go_loop [5, 6] (fun t i => ∃ (k : Nat) (T : Int), k ≤ n ∧ i = .int .i64 k ∧ t = .int .i64 T ∧ Hid (∀ r, r < k → (CL r).length ≤ 262144)) (fun _ i => n - (intOf i).toNat)
  case atStart => exact ⟨0, _, Nat.zero_le _, rfl, rfl, fun r hr => absurd hr (Nat.not_lt_zero _)⟩
  case round =>
    obtain ⟨k, T, hk, rfl, rfl, HL⟩ := hrel
    by_cases hlt : k < n
    · have hkz : (k : Int) < (n : Int) := by omega
      obtain ⟨b, off, hx, hc⟩ := HH.out.at (by omega)
      have g1 := (hc k hlt).1
      subst hx
      obtain ⟨m, hm⟩ : ∃ m, m = (CL k).length := ⟨_, rfl⟩
      rw [← hm] at g1
      have HM := hide hm
      clear hm hc
      by_cases hb : 262144 < m
      · go_wp2
        go_ret
        exact ⟨Answers.mk (fun h => by cases h), rfl⟩
      · have d2 : decide ((262144 : Int) < (m : Int)) = false := by simp; omega
        go_wp2
        go_round
        case rel =>
          refine ⟨k + 1, _, by omega, by go_num, rfl, fun r hr => ?_⟩
          by_cases e : r = k
          · subst e; rw [← HM.out]; omega
          · exact HL.out r (by omega)
        case measure => simp [intOf]; omega
    · obtain rfl : k = n := by omega
      go_wp2
      go_ret
      exact ⟨Answers.mk (fun _ => HL.out), rfl⟩

/-- 'zzBytes_..': it answers. -/
theorem zz16_any (dims cov : Int) (a1 a2 a3 a4 a6 : Option Addr) (n1 c1 n2 c2 n3 c3 n4 c4 n6 c6 : Nat) (A : Nat → Option Addr) (C : Nat → Nat) (CL : Nat → List Int) (w : World) (h : HasRows w a3 n3 A C CL) :
    Calls Try.prog 16 #[.int .i64 dims, .slice a1 n1 c1, .slice a2 n2 c2, .slice a3 n3 c3, .slice a4 n4 c4, .int .i64 cov, .slice a6 n6 c6] w fun e w' => Answers e (fun _ => True) ∧ w' = w := by
  have HH := hide h
  clear h
  by_cases h1 : 1048576 < n1
  · go_enter Try.func16, Try.ntmps16
    go_wp2
    go_ret
    exact ⟨Answers.mk trivial, rfl⟩
  by_cases h2 : 1048576 < n2
  · go_enter Try.func16, Try.ntmps16
    go_wp2
    go_ret
    exact ⟨Answers.mk trivial, rfl⟩
  by_cases h3 : 1048576 < n1 + n2
  · go_enter Try.func16, Try.ntmps16
    go_wp2
    go_ret
    exact ⟨Answers.mk trivial, rfl⟩
  by_cases h4 : 1048576 < n3
  · go_enter Try.func16, Try.ntmps16
    go_wp2
    go_ret
    exact ⟨Answers.mk trivial, rfl⟩
  by_cases h5 : 1048576 < n1 + n2 + n3
  · go_enter Try.func16, Try.ntmps16
    go_wp2
    go_ret
    exact ⟨Answers.mk trivial, rfl⟩
  have d1 : decide ((1048576 : Int) < (n1 : Int)) = false := by simp; omega
  have d2 : decide ((1048576 : Int) < (n2 : Int)) = false := by simp; omega
  have d3 : decide ((1048576 : Int) < (n1 : Int) + (n2 : Int)) = false := by simp; omega
  have d4 : decide ((1048576 : Int) < (n3 : Int)) = false := by simp; omega
  have d5 : decide ((1048576 : Int) < (n1 : Int) + (n2 : Int) + (n3 : Int)) = false := by simp; omega
  go_enter Try.func16, Try.ntmps16
  go_wp2
  go_loop [15, 16] (fun t i => ∃ (k : Nat) (T : Int), k ≤ n3 ∧ i = .int .i64 k ∧ t = .int .i64 T) (fun _ i => n3 - (intOf i).toNat)
  case atStart => exact ⟨0, _, Nat.zero_le _, rfl, rfl⟩
  case round =>
    obtain ⟨k, T, hk, rfl, rfl⟩ := hrel
    by_cases hlt : k < n3
    · have hkz : (k : Int) < (n3 : Int) := by omega
      obtain ⟨b, off, hx, hc⟩ := HH.out.at (by omega)
      have g1 := (hc k hlt).1
      subst hx
      obtain ⟨m, hm⟩ : ∃ m, m = (CL k).length := ⟨_, rfl⟩
      rw [← hm] at g1
      clear hm hc
      go_wp2
      · go_ret
        exact ⟨Answers.mk trivial, rfl⟩
      · go_ret
        exact ⟨Answers.mk trivial, rfl⟩
      · go_round
        case rel => exact ⟨k + 1, _, by omega, by go_num, rfl⟩
        case measure => simp [intOf]; omega
    · obtain rfl : k = n3 := by omega
      go_wp2
      all_goals
        go_ret
        exact ⟨Answers.mk trivial, rfl⟩
end Go.Proofs.Qxb6603178a
