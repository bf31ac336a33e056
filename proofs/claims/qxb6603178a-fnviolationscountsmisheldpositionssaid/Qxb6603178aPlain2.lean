/-
  Seat b6603178a: the plain functions behind 'Violations': no Go in sight.
-/
namespace Go.Proofs.Qxb6603178a.Pv

/-- What one claim of position x by peer v adds. -/
def add1 (H : List Int) (x v : Nat) : Nat := if H.getD x 0 = (v : Int) then 1 else 2
/-- The counts of 'Violations' behind the claims s (pairs: the peer, the position). -/
def heldf (H : List Int) (s : List (Nat × Nat)) (x : Nat) : Nat := (s.map fun q => if q.2 = x then add1 H x q.1 else 0).sum
/-- How many claims of x there are. -/
def clf (s : List (Nat × Nat)) (x : Nat) : Nat := (s.map fun q => if q.2 = x then 1 else 0).sum
/-- Who claimed x last. -/
def cmf (s : List (Nat × Nat)) (x : Nat) : Nat := s.foldl (fun c q => if q.2 = x then q.1 else c) 0

theorem heldf_snoc (H : List Int) (s : List (Nat × Nat)) (v y x : Nat) : heldf H (s ++ [(v, y)]) x = if x = y then heldf H s y + add1 H y v else heldf H s x := by
  by_cases e : x = y
  · subst e; simp [heldf]
  · have e' : ¬ y = x := fun h => e h.symm
    simp [heldf, e, e']
theorem clf_snoc (s : List (Nat × Nat)) (v y x : Nat) : clf (s ++ [(v, y)]) x = if x = y then clf s y + 1 else clf s x := by
  by_cases e : x = y
  · subst e; simp [clf]
  · have e' : ¬ y = x := fun h => e h.symm
    simp [clf, e, e']
theorem cmf_snoc (s : List (Nat × Nat)) (v y x : Nat) : cmf (s ++ [(v, y)]) x = if x = y then v else cmf s x := by
  by_cases e : x = y
  · subst e; simp [cmf]
  · have e' : ¬ y = x := fun h => e h.symm
    simp [cmf, e, e']

theorem add1_bd (H : List Int) (x v : Nat) : 1 ≤ add1 H x v ∧ add1 H x v ≤ 2 := by unfold add1; split <;> omega
theorem heldf_le (H : List Int) (x : Nat) : ∀ s : List (Nat × Nat), heldf H s x ≤ 2 * s.length := by
  intro s
  induction s with
  | nil => simp [heldf]
  | cons q s ih =>
    have := add1_bd H x q.1
    simp only [heldf, List.map_cons, List.sum_cons, List.length_cons] at ih ⊢
    split <;> omega
theorem clf_le (x : Nat) : ∀ s : List (Nat × Nat), clf s x ≤ s.length := by
  intro s
  induction s with
  | nil => simp [clf]
  | cons q s ih =>
    simp only [clf, List.map_cons, List.sum_cons, List.length_cons] at ih ⊢
    split <;> omega

/-- What holds between the three at every time. -/
def Inv (H : List Int) (x h c m : Nat) : Prop := (c = 0 ∧ h = 0) ∨ (c = 1 ∧ h = add1 H x m) ∨ (2 ≤ c ∧ 2 ≤ h)
theorem inv_all (H : List Int) (x : Nat) : ∀ (s : List (Nat × Nat)) (h c m : Nat), Inv H x h c m → Inv H x (h + heldf H s x) (c + clf s x) (s.foldl (fun c q => if q.2 = x then q.1 else c) m) := by
  intro s
  induction s with
  | nil => intro h c m hi; simpa [heldf, clf] using hi
  | cons q s ih =>
    intro h c m hi
    by_cases e : q.2 = x
    · have step : Inv H x (h + add1 H x q.1) (c + 1) q.1 := by
        have := add1_bd H x q.1
        rcases hi with ⟨h1, h2⟩ | ⟨h1, h2⟩ | ⟨h1, h2⟩
        · right; left; omega
        · have := add1_bd H x m
          right; right; omega
        · right; right; omega
      have := ih _ _ _ step
      simp only [heldf, clf, List.map_cons, List.sum_cons, List.foldl_cons, e, if_true] at this ⊢
      rw [← Nat.add_assoc, ← Nat.add_assoc]
      exact this
    · have := ih _ _ _ hi
      simp only [heldf, clf, List.map_cons, List.sum_cons, List.foldl_cons, e, if_false] at this ⊢
      simpa using this
theorem key (H : List Int) (s : List (Nat × Nat)) (x : Nat) : (heldf H s x = 1) ↔ (clf s x = 1 ∧ H.getD x 0 = (cmf s x : Int)) := by
  have := inv_all H x s 0 0 0 (.inl ⟨rfl, rfl⟩)
  simp only [Nat.zero_add] at this
  have e : s.foldl (fun c q => if q.2 = x then q.1 else c) 0 = cmf s x := rfl
  rw [e] at this
  rcases this with ⟨h1, h2⟩ | ⟨h1, h2⟩ | ⟨h1, h2⟩
  · omega
  · rw [h2]
    unfold add1
    split
    · rename_i h; exact ⟨fun _ => ⟨h1, h⟩, fun _ => rfl⟩
    · rename_i h; exact ⟨fun e => absurd e (by omega), fun e => absurd e.2 h⟩
  · omega

/-- How many of the first k places meet p. -/
def cnt (p : Nat → Bool) : Nat → Nat
  | 0 => 0
  | k + 1 => if p k = true then cnt p k + 1 else cnt p k
theorem cnt_le (p : Nat → Bool) : ∀ k, cnt p k ≤ k := by
  intro k
  induction k with
  | zero => simp [cnt]
  | succ k ih => simp only [cnt]; split <;> omega
def bad (H : List Int) (s : List (Nat × Nat)) (x : Nat) : Bool := decide (heldf H s x ≠ 1)
def bad2 (H : List Int) (s : List (Nat × Nat)) (x : Nat) : Bool := decide (¬ (clf s x = 1 ∧ H.getD x 0 = (cmf s x : Int)))
theorem bad_eq (H : List Int) (s : List (Nat × Nat)) : bad H s = bad2 H s := funext fun x => by
  unfold bad bad2
  rw [decide_eq_decide]
  exact not_congr (key H s x)

/-- The claims of the first v peers. -/
def pre (O : List Int) (CL : Nat → List Int) : Nat → List (Nat × Nat)
  | 0 => []
  | v + 1 => pre O CL v ++ (v, (O.getD v 0).toNat) :: (CL v).map (fun y => (v, y.toNat))
/-- .. and of peer v his own and the first j that he covers. -/
def mid (O : List Int) (CL : Nat → List Int) (v j : Nat) : List (Nat × Nat) := pre O CL v ++ (v, (O.getD v 0).toNat) :: ((CL v).take j).map (fun y => (v, y.toNat))
theorem mid_zero (O : List Int) (CL : Nat → List Int) (v : Nat) : mid O CL v 0 = pre O CL v ++ [(v, (O.getD v 0).toNat)] := by simp [mid]
theorem mid_step (O : List Int) (CL : Nat → List Int) (v j : Nat) (hj : j < (CL v).length) : mid O CL v (j + 1) = mid O CL v j ++ [(v, ((CL v).getD j 0).toNat)] := by
  unfold mid
  have e : (CL v).getD j 0 = (CL v)[j] := by simp [List.getElem?_eq_getElem hj]
  rw [e, List.take_succ_eq_append_getElem hj, List.map_append, List.append_assoc]
  rfl
theorem mid_all (O : List Int) (CL : Nat → List Int) (v : Nat) : mid O CL v (CL v).length = pre O CL (v + 1) := by simp [mid, pre]
theorem pre_len (O : List Int) (CL : Nat → List Int) (B : Nat) : ∀ v, (∀ u, u < v → (CL u).length ≤ B) → (pre O CL v).length ≤ v * (B + 1) := by
  intro v
  induction v with
  | zero => intro _; simp [pre]
  | succ v ih =>
    intro h
    have h1 := ih (fun u hu => h u (by omega))
    have h2 := h v (by omega)
    simp only [pre, List.length_append, List.length_cons, List.length_map]
    rw [Nat.succ_mul]
    omega
theorem mid_len (O : List Int) (CL : Nat → List Int) (B v j : Nat) (h : ∀ u, u < v → (CL u).length ≤ B) : (mid O CL v j).length ≤ v * (B + 1) + 1 + j := by
  have := pre_len O CL B v h
  simp only [mid, List.length_append, List.length_cons, List.length_map, List.length_take]
  omega
end Go.Proofs.Qxb6603178a.Pv
