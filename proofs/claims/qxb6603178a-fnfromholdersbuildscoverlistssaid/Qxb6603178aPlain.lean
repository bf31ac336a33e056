/-
  Seat b6603178a: the plain functions behind 'fromHolders': no Go in sight.
-/
namespace Go.Proofs.Qxb6603178a.Pl

/-- The peer that holds position x. -/
def peer (H : List Int) (x : Nat) : Nat := (H.getD x 0).toNat
/-- Is the position x covered (held by a peer whose own it is not)? -/
def cvd (H O : List Int) (x : Nat) : Bool := O.getD (peer H x) 0 != (x : Int)
/-- The positions below k that peer v covers, in increasing order. -/
def lst (H O : List Int) : Nat → Nat → List Int
  | 0, _ => []
  | k + 1, v => if peer H k = v ∧ cvd H O k = true then lst H O k v ++ [(k : Int)] else lst H O k v
/-- How many positions below k are covered. -/
def cov (H O : List Int) : Nat → Nat
  | 0 => 0
  | k + 1 => if cvd H O k = true then cov H O k + 1 else cov H O k
/-- The slots after k rounds. -/
def slt (H O : List Int) (k x : Nat) : Int := if x < k ∧ cvd H O x = true then ((lst H O x (peer H x)).length : Int) else 0

theorem lst_hit {H O : List Int} {k v : Nat} (h1 : peer H k = v) (h2 : cvd H O k = true) : lst H O (k + 1) v = lst H O k v ++ [(k : Int)] := by
  simp [lst, h1, h2]
theorem lst_miss {H O : List Int} {k v : Nat} (h : ¬ (peer H k = v ∧ cvd H O k = true)) : lst H O (k + 1) v = lst H O k v := by
  simp only [lst, if_neg h]
theorem lst_no {H O : List Int} {k : Nat} (h : cvd H O k = false) (v : Nat) : lst H O (k + 1) v = lst H O k v := lst_miss (by simp [h])
theorem lst_len (H O : List Int) : ∀ k v, (lst H O k v).length ≤ k := by
  intro k
  induction k with
  | zero => intro v; simp [lst]
  | succ k ih =>
    intro v
    have := ih v
    simp only [lst]
    split
    · simp; omega
    · omega
theorem cov_le (H O : List Int) : ∀ k, cov H O k ≤ k := by
  intro k
  induction k with
  | zero => simp [cov]
  | succ k ih => simp only [cov]; split <;> omega

/-- What each entry of a list is. -/
theorem lst_mem (H O : List Int) : ∀ k v y, y ∈ lst H O k v → ∃ x : Nat, y = (x : Int) ∧ x < k ∧ peer H x = v ∧ cvd H O x = true := by
  intro k
  induction k with
  | zero => intro v y hy; simp [lst] at hy
  | succ k ih =>
    intro v y hy
    simp only [lst] at hy
    split at hy
    · rename_i h
      rcases List.mem_append.1 hy with h1 | h1
      · obtain ⟨x, e1, e2, e3, e4⟩ := ih v y h1
        exact ⟨x, e1, by omega, e3, e4⟩
      · simp at h1
        exact ⟨k, h1, by omega, h.1, h.2⟩
    · obtain ⟨x, e1, e2, e3, e4⟩ := ih v y hy
      exact ⟨x, e1, by omega, e3, e4⟩

/-- The lists rise. -/
theorem lst_rise (H O : List Int) : ∀ k v j, j + 1 < (lst H O k v).length → (lst H O k v).getD j 0 < (lst H O k v).getD (j + 1) 0 := by
  intro k
  induction k with
  | zero => intro v j hj; simp [lst] at hj
  | succ k ih =>
    intro v j hj
    by_cases h : peer H k = v ∧ cvd H O k = true
    · rw [lst_hit h.1 h.2] at hj ⊢
      simp at hj
      by_cases hj2 : j + 1 < (lst H O k v).length
      · have := ih v j hj2
        rw [List.getD_eq_getElem?_getD, List.getD_eq_getElem?_getD, List.getElem?_append_left (by omega), List.getElem?_append_left hj2]
        simpa using this
      · have e : j + 1 = (lst H O k v).length := by omega
        have h0 : j < (lst H O k v).length := by omega
        have hm : (lst H O k v)[j] ∈ lst H O k v := List.getElem_mem h0
        obtain ⟨x, e1, e2, _, _⟩ := lst_mem H O k v _ hm
        have a1 : (lst H O k v ++ [(k : Int)]).getD j 0 = (x : Int) := by
          rw [List.getD_eq_getElem?_getD, List.getElem?_append_left h0, List.getElem?_eq_getElem h0]; simpa using e1
        have a2 : (lst H O k v ++ [(k : Int)]).getD (j + 1) 0 = (k : Int) := by
          rw [e]; simp
        rw [a1, a2]; omega
    · rw [lst_miss h] at hj ⊢
      exact ih v j hj

/-- A list at a later time begins with what it was. -/
theorem lst_pre (H O : List Int) (k v : Nat) : ∀ m, k ≤ m → ∃ r, lst H O m v = lst H O k v ++ r := by
  intro m hm
  induction m with
  | zero => obtain rfl : k = 0 := by omega
            exact ⟨[], by simp⟩
  | succ m ih =>
    by_cases e : k = m + 1
    · subst e; exact ⟨[], by simp⟩
    · obtain ⟨r, hr⟩ := ih (by omega)
      simp only [lst]
      split
      · exact ⟨r ++ [(m : Int)], by rw [hr]; simp⟩
      · exact ⟨r, hr⟩

/-- A covered position stands in its holder's list where its slot says. -/
theorem slt_at (H O : List Int) (n x : Nat) (hx : x < n) (hc : cvd H O x = true) :
    (lst H O x (peer H x)).length < (lst H O n (peer H x)).length ∧ (lst H O n (peer H x)).getD (lst H O x (peer H x)).length 0 = (x : Int) := by
  obtain ⟨r, hr⟩ := lst_pre H O (x + 1) (peer H x) n (by omega)
  rw [lst_hit rfl hc] at hr
  rw [hr]
  constructor
  · simp
  · rw [List.append_assoc, List.getD_eq_getElem?_getD, List.getElem?_append_right (Nat.le_refl _)]; simp
theorem slt_step (H O : List Int) (k x : Nat) (h : cvd H O k = true) : slt H O (k + 1) x = if x = k then ((lst H O k (peer H k)).length : Int) else slt H O k x := by
  unfold slt
  by_cases e : x = k
  · subst e; simp [h]
  · rw [if_neg e]
    have : (x < k + 1) ↔ (x < k) := by omega
    simp [this]
theorem slt_no (H O : List Int) (k x : Nat) (h : cvd H O k = false) : slt H O (k + 1) x = slt H O k x := by
  unfold slt
  by_cases e : x = k
  · subst e; simp [h]
  · have : (x < k + 1) ↔ (x < k) := by omega
    simp [this]
end Go.Proofs.Qxb6603178a.Pl
