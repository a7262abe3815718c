/-
  The plain laws of the seat (no Go in sight): placing values into a table, one after the other.
-/
namespace Go.Proofs.Qxb6616332a.Plain

def mn (lo p : Int) : Int := if p < lo then p else lo
def mx (hi p : Int) : Int := if hi < p then p else hi
/-- The table with p at u. -/
def upd (A : Nat → Int) (u p : Int) (j : Nat) : Int := if u = (j : Int) then p else A j
/-- Has place x been named by one of the first k? -/
def seenK (U : Nat → Int) : Nat → Nat → Bool
  | 0, _ => false
  | k + 1, x => if U k = (x : Int) then true else seenK U k x
/-- The table behind the first k placements. -/
def putK (U P : Nat → Int) (O : Nat → Int) : Nat → Nat → Int
  | 0, x => O x
  | k + 1, x => if U k = (x : Int) then P k else putK U P O k x
def minK (lo : Int) (P : Nat → Int) : Nat → Int
  | 0 => lo
  | k + 1 => if P k < minK lo P k then P k else minK lo P k
def maxK (hi : Int) (P : Nat → Int) : Nat → Int
  | 0 => hi
  | k + 1 => if maxK hi P k < P k then P k else maxK hi P k
/-- The same list read from its end. -/
def rev (m : Nat) (P : Nat → Int) (i : Nat) : Int := P (m - 1 - i)

theorem minK_mn (lo : Int) (P : Nat → Int) (k : Nat) : minK lo P (k + 1) = mn (minK lo P k) (P k) := rfl
theorem maxK_mx (hi : Int) (P : Nat → Int) (k : Nat) : maxK hi P (k + 1) = mx (maxK hi P k) (P k) := rfl
theorem putK_upd (U P O : Nat → Int) (k : Nat) : putK U P O (k + 1) = upd (putK U P O k) (U k) (P k) := rfl

theorem seenK_true {U : Nat → Int} {k x : Nat} (h : seenK U k x = true) : ∃ i, i < k ∧ U i = (x : Int) := by
  induction k with
  | zero => simp [seenK] at h
  | succ k ih =>
    unfold seenK at h
    split at h
    · exact ⟨k, by omega, by assumption⟩
    · obtain ⟨i, hi, e⟩ := ih h
      exact ⟨i, by omega, e⟩
theorem seenK_of {U : Nat → Int} {k x i : Nat} (hi : i < k) (e : U i = (x : Int)) : seenK U k x = true := by
  induction k with
  | zero => omega
  | succ k ih =>
    unfold seenK
    split
    · rfl
    · rename_i hne
      exact ih (by
        by_cases hk : i = k
        · subst hk; exact absurd e hne
        · omega)
theorem seenK_false {U : Nat → Int} {k x : Nat} (h : seenK U k x = false) (i : Nat) (hi : i < k) : U i ≠ (x : Int) := by
  intro e
  rw [seenK_of hi e] at h
  cases h

theorem putK_at {U P O : Nat → Int} {k i x : Nat} (hi : i < k) (e : U i = (x : Int)) (hd : ∀ j, i < j → j < k → U j ≠ (x : Int)) : putK U P O k x = P i := by
  induction k with
  | zero => omega
  | succ k ih =>
    unfold putK
    by_cases hk : i = k
    · subst hk; rw [if_pos e]
    · rw [if_neg (hd k (by omega) (by omega))]
      exact ih (by omega) (fun j h1 h2 => hd j h1 (by omega))
theorem putK_other {U P O : Nat → Int} {k x : Nat} (hd : ∀ j, j < k → U j ≠ (x : Int)) : putK U P O k x = O x := by
  induction k with
  | zero => rfl
  | succ k ih =>
    unfold putK
    rw [if_neg (hd k (by omega))]
    exact ih (fun j h => hd j (by omega))

theorem minK_le (lo : Int) (P : Nat → Int) (k : Nat) : minK lo P k ≤ lo ∧ ∀ i, i < k → minK lo P k ≤ P i := by
  induction k with
  | zero => exact ⟨by simp [minK], fun i h => by omega⟩
  | succ k ih =>
    obtain ⟨h1, h2⟩ := ih
    unfold minK
    split
    · refine ⟨by omega, fun i hi => ?_⟩
      by_cases e : i = k
      · subst e; omega
      · have := h2 i (by omega); omega
    · refine ⟨h1, fun i hi => ?_⟩
      by_cases e : i = k
      · subst e; omega
      · exact h2 i (by omega)
theorem minK_is (lo : Int) (P : Nat → Int) (k : Nat) : minK lo P k = lo ∨ ∃ i, i < k ∧ minK lo P k = P i := by
  induction k with
  | zero => exact .inl rfl
  | succ k ih =>
    unfold minK
    split
    · exact .inr ⟨k, by omega, rfl⟩
    · rcases ih with h | ⟨i, h, e⟩
      · exact .inl h
      · exact .inr ⟨i, by omega, e⟩
theorem maxK_ge (hi : Int) (P : Nat → Int) (k : Nat) : hi ≤ maxK hi P k ∧ ∀ i, i < k → P i ≤ maxK hi P k := by
  induction k with
  | zero => exact ⟨by simp [maxK], fun i h => by omega⟩
  | succ k ih =>
    obtain ⟨h1, h2⟩ := ih
    unfold maxK
    split
    · refine ⟨by omega, fun i hi => ?_⟩
      by_cases e : i = k
      · subst e; omega
      · have := h2 i (by omega); omega
    · refine ⟨h1, fun i hi => ?_⟩
      by_cases e : i = k
      · subst e; omega
      · exact h2 i (by omega)
theorem maxK_is (hi : Int) (P : Nat → Int) (k : Nat) : maxK hi P k = hi ∨ ∃ i, i < k ∧ maxK hi P k = P i := by
  induction k with
  | zero => exact .inl rfl
  | succ k ih =>
    unfold maxK
    split
    · exact .inr ⟨k, by omega, rfl⟩
    · rcases ih with h | ⟨i, h, e⟩
      · exact .inl h
      · exact .inr ⟨i, by omega, e⟩

theorem rev_rev {m i : Nat} (P : Nat → Int) (hi : i < m) : rev m P (m - 1 - i) = P i := by
  unfold rev
  congr 1
  omega
theorem minK_rev (lo : Int) (P : Nat → Int) (m : Nat) : minK lo (rev m P) m = minK lo P m := by
  obtain ⟨a1, a2⟩ := minK_le lo P m
  obtain ⟨b1, b2⟩ := minK_le lo (rev m P) m
  apply Int.le_antisymm
  · rcases minK_is lo P m with h | ⟨i, hi, e⟩
    · omega
    · have := b2 (m - 1 - i) (by omega)
      rw [rev_rev P hi] at this
      omega
  · rcases minK_is lo (rev m P) m with h | ⟨i, hi, e⟩
    · omega
    · rw [e]
      exact a2 (m - 1 - i) (by omega)
theorem maxK_rev (hi : Int) (P : Nat → Int) (m : Nat) : maxK hi (rev m P) m = maxK hi P m := by
  obtain ⟨a1, a2⟩ := maxK_ge hi P m
  obtain ⟨b1, b2⟩ := maxK_ge hi (rev m P) m
  apply Int.le_antisymm
  · rcases maxK_is hi (rev m P) m with h | ⟨i, h, e⟩
    · omega
    · rw [e]
      exact a2 (m - 1 - i) (by omega)
  · rcases maxK_is hi P m with h | ⟨i, h, e⟩
    · omega
    · have := b2 (m - 1 - i) (by omega)
      rw [rev_rev P h] at this
      omega
/-- Distinct places: the order of the placements does not matter. -/
theorem putK_rev {U P O : Nat → Int} {m : Nat} (hd : ∀ i j, i < j → j < m → U i ≠ U j) (x : Nat) : putK (rev m U) (rev m P) O m x = putK U P O m x := by
  by_cases h : ∃ i, i < m ∧ U i = (x : Int)
  · obtain ⟨i, hi, e⟩ := h
    rw [putK_at hi e (fun j h1 h2 e2 => hd i j h1 h2 (e.trans e2.symm))]
    rw [putK_at (i := m - 1 - i) (by omega) (by rw [rev_rev U hi]; exact e) ?_, rev_rev P hi]
    intro j h1 h2 e2
    exact hd (m - 1 - j) i (by omega) hi (by rw [e]; exact e2)
  · rw [putK_other (fun j hj e => h ⟨j, hj, e⟩), putK_other (U := rev m U) (k := m) (fun j hj e => h ⟨m - 1 - j, by omega, e⟩)]

/-- The first k places lie within n. -/
def Within (U : Nat → Int) (k n : Nat) : Prop := ∀ i, i < k → 0 ≤ U i ∧ U i < (n : Int)
theorem Within.zero (U : Nat → Int) (n : Nat) : Within U 0 n := fun i h => by omega
theorem Within.step {U : Nat → Int} {k n u : Nat} (h : Within U k n) (e : U k = (u : Int)) (hu : u < n) : Within U (k + 1) n := fun i hi => by
  by_cases x : i = k
  · subst x; omega
  · exact h i (by omega)
theorem Within.at {U : Nat → Int} {m n i : Nat} (h : Within U m n) (hi : i < m) : ∃ u : Nat, U i = (u : Int) ∧ u < n := by
  have := h i hi
  exact ⟨(U i).toNat, by omega, by omega⟩
/-- The first k places are distinct. -/
def Apart (U : Nat → Int) (k : Nat) : Prop := ∀ i j, i < j → j < k → U i ≠ U j
theorem Apart.zero (U : Nat → Int) : Apart U 0 := fun i j _ h => by omega
theorem Apart.step {U : Nat → Int} {k u : Nat} (h : Apart U k) (e : U k = (u : Int)) (hs : seenK U k u = false) : Apart U (k + 1) := fun i j h1 h2 => by
  by_cases x : j = k
  · subst x; rw [e]; exact seenK_false hs i h1
  · exact h i j h1 (by omega)
theorem seenK_step {U : Nat → Int} {k u : Nat} (e : U k = (u : Int)) (j : Nat) : seenK U (k + 1) j = if j = u then true else seenK U k j := by
  show (if U k = (j : Int) then true else seenK U k j) = _
  by_cases x : j = u
  · subst x; rw [if_pos e, if_pos rfl]
  · rw [if_neg (by omega), if_neg x]
/-- A reading of the end: place i of the list read from its end. -/
theorem rev_at {m k : Nat} (P : Nat → Int) (hk : k < m) : rev m P (m - 1 - k) = P k := rev_rev P hk

/-! ### The last write: the table is built anew from the end, each place once. -/
/-- Named by one of the places from k on? -/
def doneK (U : Nat → Int) (m k x : Nat) : Bool := seenK (rev m U) (m - k) x
/-- What the table built from the end holds when the places from k on have been looked at. -/
def wantK (U P O : Nat → Int) (m k x : Nat) : Int := if doneK U m k x then putK U P O m x else O x
theorem doneK_m (U : Nat → Int) (m x : Nat) : doneK U m m x = false := by simp [doneK, seenK]
theorem doneK_step {U : Nat → Int} {m k : Nat} (hk : k < m) (x : Nat) : doneK U m k x = if U k = (x : Int) then true else doneK U m (k + 1) x := by
  unfold doneK
  rw [show m - k = (m - (k + 1)) + 1 by omega]
  show (if rev m U (m - (k + 1)) = (x : Int) then true else seenK (rev m U) (m - (k + 1)) x) = _
  rw [show rev m U (m - (k + 1)) = U k by unfold rev; congr 1; omega]
theorem doneK_false {U : Nat → Int} {m k x : Nat} (h : doneK U m k x = false) (j : Nat) (h1 : k ≤ j) (h2 : j < m) : U j ≠ (x : Int) := by
  intro e
  refine seenK_false h (m - 1 - j) (by omega) ?_
  rw [rev_rev U h2]; exact e
theorem doneK_zero_false {U P O : Nat → Int} {m x : Nat} (h : doneK U m 0 x = false) : putK U P O m x = O x :=
  putK_other (fun j hj => doneK_false h j (by omega) hj)
theorem wantK_m (U P O : Nat → Int) (m x : Nat) : wantK U P O m m x = O x := by simp [wantK, doneK_m]
theorem wantK_zero (U P O : Nat → Int) (m x : Nat) : wantK U P O m 0 x = putK U P O m x := by
  unfold wantK
  split
  · rfl
  · rename_i h
    exact (doneK_zero_false (by simpa using h)).symm
/-- Place k's own is done already: nothing turns. -/
theorem wantK_skip {U P O : Nat → Int} {m k : Nat} (hk : k < m) {u : Nat} (hu : U k = (u : Int)) (h : doneK U m (k + 1) u = true) (x : Nat) :
    doneK U m k x = doneK U m (k + 1) x ∧ wantK U P O m k x = wantK U P O m (k + 1) x := by
  have e : doneK U m k x = doneK U m (k + 1) x := by
    rw [doneK_step hk]
    split
    · rename_i hx
      have : x = u := by omega
      subst this; exact h.symm
    · rfl
  exact ⟨e, by unfold wantK; rw [e]⟩
/-- Place k's own is not done yet: it is written. -/
theorem wantK_put {U P O : Nat → Int} {m k : Nat} (hk : k < m) {u : Nat} (hu : U k = (u : Int)) (h : doneK U m (k + 1) u = false) (x : Nat) :
    doneK U m k x = (if x = u then true else doneK U m (k + 1) x) ∧ wantK U P O m k x = (if x = u then P k else wantK U P O m (k + 1) x) := by
  have e : doneK U m k x = (if x = u then true else doneK U m (k + 1) x) := by
    rw [doneK_step hk]
    by_cases hx : x = u
    · subst hx; rw [if_pos hu, if_pos rfl]
    · rw [if_neg (by omega), if_neg hx]
  refine ⟨e, ?_⟩
  unfold wantK
  rw [e]
  by_cases hx : x = u
  · subst hx
    simp only [if_true]
    exact putK_at hk hu (fun j h1 h2 => doneK_false h j (by omega) h2)
  · simp only [hx, if_false]
end Go.Proofs.Qxb6616332a.Plain
