/-
  The plain laws of the seat (no Go in sight): 'some of the first n hold'.
-/
namespace Go.Proofs.Qxb6617608a.Plain

/-- Does f hold of one of the first n? -/
def anyK (f : Nat → Bool) : Nat → Bool
  | 0 => false
  | k + 1 => anyK f k || f k
/-- Is s the permission p, or the wildcard? -/
def hit (p s : ByteArray) : Bool := s.toList == p.toList || s.toList == [42]

theorem anyK_of {f : Nat → Bool} {n i : Nat} (hi : i < n) (h : f i = true) : anyK f n = true := by
  induction n with
  | zero => omega
  | succ n ih =>
    unfold anyK
    by_cases e : i = n
    · subst e; simp [h]
    · rw [ih (by omega)]; rfl
theorem anyK_true {f : Nat → Bool} {n : Nat} (h : anyK f n = true) : ∃ i, i < n ∧ f i = true := by
  induction n with
  | zero => simp [anyK] at h
  | succ n ih =>
    unfold anyK at h
    rcases Bool.or_eq_true _ _ ▸ h with h | h
    · obtain ⟨i, hi, e⟩ := ih h
      exact ⟨i, by omega, e⟩
    · exact ⟨n, by omega, h⟩
theorem anyK_iff (f : Nat → Bool) (n : Nat) : anyK f n = true ↔ ∃ i, i < n ∧ f i = true := ⟨anyK_true, fun ⟨_, h, e⟩ => anyK_of h e⟩
theorem anyK_step_no {f : Nat → Bool} {k : Nat} (h : anyK f k = false) (hf : f k = false) : anyK f (k + 1) = false := by simp [anyK, h, hf]
theorem hit_self (p : ByteArray) : hit p p = true := by simp [hit]
theorem hit_star (p : ByteArray) (s : ByteArray) (h : s.toList = [42]) : hit p s = true := by simp [hit, h]

/-- A list cut at i: one of the whole is one of the left part or one of the right. -/
theorem anyK_cut (f : Nat → Bool) (n i : Nat) (hi : i ≤ n) : anyK f n = (anyK f i || anyK (fun j => f (i + j)) (n - i)) := by
  rw [Bool.eq_iff_iff, Bool.or_eq_true, anyK_iff, anyK_iff, anyK_iff]
  constructor
  · rintro ⟨j, hj, e⟩
    by_cases h : j < i
    · exact .inl ⟨j, h, e⟩
    · exact .inr ⟨j - i, by omega, by rw [show i + (j - i) = j by omega]; exact e⟩
  · rintro (⟨j, hj, e⟩ | ⟨j, hj, e⟩)
    · exact ⟨j, by omega, e⟩
    · exact ⟨i + j, by omega, e⟩
/-- The list with x put in at place i. -/
def ins (N : Nat → ByteArray) (i : Nat) (x : ByteArray) (j : Nat) : ByteArray := if j < i then N j else if j = i then x else N (j - 1)
theorem ins_at (N : Nat → ByteArray) (i : Nat) (x : ByteArray) : ins N i x i = x := by simp [ins]

/-- The entries of a list that are hits, and the others. -/
def keptK (N : Nat → ByteArray) (p : ByteArray) (k : Nat) : List ByteArray := ((List.range k).map N).filter (hit p)
def restK (N : Nat → ByteArray) (p : ByteArray) (k : Nat) : List ByteArray := ((List.range k).map N).filter (fun s => !hit p s)
theorem keptK_yes {N : Nat → ByteArray} {p : ByteArray} {k : Nat} (h : hit p (N k) = true) : keptK N p (k + 1) = keptK N p k ++ [N k] ∧ restK N p (k + 1) = restK N p k := by
  simp [keptK, restK, List.range_succ, h]
theorem keptK_no {N : Nat → ByteArray} {p : ByteArray} {k : Nat} (h : hit p (N k) = false) : keptK N p (k + 1) = keptK N p k ∧ restK N p (k + 1) = restK N p k ++ [N k] := by
  simp [keptK, restK, List.range_succ, h]
theorem keptK_len (N : Nat → ByteArray) (p : ByteArray) (k : Nat) : (keptK N p k).length ≤ k ∧ (restK N p k).length ≤ k := by
  refine ⟨Nat.le_trans (List.length_filter_le _ _) (by simp), Nat.le_trans (List.length_filter_le _ _) (by simp)⟩
theorem anyK_list (f : ByteArray → Bool) (L : List ByteArray) (d : ByteArray) : anyK (fun j => f (L.getD j d)) L.length = L.any f := by
  rw [Bool.eq_iff_iff, anyK_iff, List.any_eq_true]
  constructor
  · rintro ⟨j, hj, e⟩
    refine ⟨L[j], List.getElem_mem hj, ?_⟩
    simpa [hj] using e
  · rintro ⟨x, hx, e⟩
    obtain ⟨j, hj, rfl⟩ := List.getElem_of_mem hx
    exact ⟨j, hj, by simpa [hj] using e⟩
theorem kept_any (N : Nat → ByteArray) (p : ByteArray) (n : Nat) (d : ByteArray) : anyK (fun j => hit p ((keptK N p n).getD j d)) (keptK N p n).length = anyK (fun j => hit p (N j)) n := by
  rw [anyK_list (hit p), Bool.eq_iff_iff, anyK_iff, List.any_eq_true]
  unfold keptK
  constructor
  · rintro ⟨x, hx, e⟩
    simp only [List.mem_filter, List.mem_map, List.mem_range] at hx
    obtain ⟨⟨j, hj, rfl⟩, _⟩ := hx
    exact ⟨j, hj, e⟩
  · rintro ⟨j, hj, e⟩
    exact ⟨N j, by simp only [List.mem_filter, List.mem_map, List.mem_range]; exact ⟨⟨j, hj, rfl⟩, e⟩, e⟩
theorem rest_any (N : Nat → ByteArray) (p : ByteArray) (n : Nat) (d : ByteArray) : anyK (fun j => hit p ((restK N p n).getD j d)) (restK N p n).length = false := by
  rw [anyK_list (hit p)]
  unfold restK
  rw [List.any_eq_false]
  intro x hx
  simp only [List.mem_filter] at hx
  simpa using hx.2
end Go.Proofs.Qxb6617608a.Plain
