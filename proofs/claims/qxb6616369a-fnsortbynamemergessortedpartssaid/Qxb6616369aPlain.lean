/-
  The plain laws of the sort statements (no Go in sight): the order by name; merging; a bottom-up merge sort; sorted lists are unique.
-/
import Derived.Sort.LotA
import Derived.Sort.Walk0
import Derived.Lib.Bytealg
namespace Go.Proofs.Qxb6616369a.Plain

/-- A name and its value. -/
abbrev NV := ByteArray × ByteArray
/-- The order by name. -/
def ltN (x y : NV) : Bool := Op.bytesLess x.1.toList y.1.toList
/-- 'Not behind', the order in which the merges choose. -/
def leN (x y : NV) : Bool := !ltN y x

theorem ltN_eq (x y : NV) : ltN x y = Sort.ltStr x.1.data.toList y.1.data.toList := by
  unfold ltN
  rw [bytesLess_eq, ByteArray.toList_eq, ByteArray.toList_eq]; rfl
theorem swoN : Sort.SWO ltN where
  irrefl x := by rw [ltN_eq]; exact Sort.swo_ltStr.irrefl _
  trans x y z h1 h2 := by rw [ltN_eq] at *; exact Sort.swo_ltStr.trans _ _ _ h1 h2
  ntrans x y z h1 h2 := by rw [ltN_eq] at *; exact Sort.swo_ltStr.ntrans _ _ _ h1 h2
theorem ltN_total {x y : NV} (h1 : ltN x y = false) (h2 : ltN y x = false) : x.1 = y.1 := by
  rw [ltN_eq] at h1 h2
  simp only [Sort.ltStr, decide_eq_false_iff_not, List.not_lt] at h1 h2
  have := List.le_antisymm h2 h1
  apply ByteArray.ext
  exact Array.toList_inj.1 this
theorem compare_lt : ∀ (a b : List UInt8), decide (Lib.compareBytes a b < 0) = Sort.ltStr a b
  | [], [] => by simp [Lib.compareBytes, Sort.ltStr]
  | [], _ :: _ => by simp [Lib.compareBytes, Sort.ltStr]
  | _ :: _, [] => by simp [Lib.compareBytes, Sort.ltStr]
  | a :: xs, b :: ys => by
    have ih := compare_lt xs ys
    unfold Lib.compareBytes
    have e : Sort.ltStr (a :: xs) (b :: ys) = decide (a < b ∨ a = b ∧ xs < ys) := by
      unfold Sort.ltStr; simp only [List.cons_lt_cons_iff]
    rw [e]
    by_cases h1 : a < b
    · simp [h1]
    · by_cases h2 : b < a
      · have h3 : a ≠ b := fun e => by subst e; exact h1 h2
        simp [h1, h2, h3]
      · have h3 : a = b := UInt8.le_antisymm (UInt8.not_lt.1 h2) (UInt8.not_lt.1 h1)
        subst h3
        simp only [h1, if_false, false_or, true_and]
        rw [ih]; rfl

/-- Sorted: nothing later is less than something earlier. -/
def SortedL (L : List NV) : Prop := L.Pairwise (fun x y => ltN y x = false)
/-- Strictly sorted. -/
def StrictL (L : List NV) : Prop := L.Pairwise (fun x y => ltN x y = true)

theorem asym {x y : NV} (h : ltN x y = true) : ltN y x = false := by
  cases e : ltN y x with
  | false => rfl
  | true => have := swoN.trans x y x h e; rw [swoN.irrefl] at this; cases this
/-- A strictly sorted list is the one sorted list of its elements. -/
theorem unique : ∀ {L1 L2 : List NV}, L1.Perm L2 → StrictL L1 → SortedL L2 → L1 = L2
  | [], L2, hp, _, _ => (List.nil_perm.1 hp).symm
  | x :: L1, L2, hp, h1, h2 => by
    cases L2 with
    | nil => exact absurd (List.perm_nil.1 hp) (by simp)
    | cons y L2 =>
      have hxy : x = y := by
        by_cases e : x = y
        · exact e
        · have hy : y ∈ x :: L1 := hp.symm.mem_iff.1 (List.mem_cons_self ..)
          have hx : x ∈ y :: L2 := hp.mem_iff.1 (List.mem_cons_self ..)
          have hy' : y ∈ L1 := by
            rcases List.mem_cons.1 hy with h | h
            · exact absurd h.symm e
            · exact h
          have hx' : x ∈ L2 := by
            rcases List.mem_cons.1 hx with h | h
            · exact absurd h e
            · exact h
          have a1 := (List.pairwise_cons.1 h1).1 y hy'
          have a2 := (List.pairwise_cons.1 h2).1 x hx'
          rw [a1] at a2; cases a2
      subst hxy
      rw [unique (List.Perm.cons_inv hp) (List.pairwise_cons.1 h1).2 (List.pairwise_cons.1 h2).2]
/-- Sorted, and no two neighbours of one name: strictly sorted. -/
theorem strict_of : ∀ {L : List NV}, SortedL L → (∀ i, i + 1 < L.length → (L.getD i default).1 ≠ (L.getD (i + 1) default).1) → StrictL L
  | [], _, _ => List.Pairwise.nil
  | [x], _, _ => List.pairwise_singleton _ _
  | x :: y :: L, hs, hn => by
    have ih := strict_of (L := y :: L) (List.pairwise_cons.1 hs).2 (fun i hi => by have := hn (i + 1) (by simp at hi ⊢; omega); simpa using this)
    have hxy : ltN x y = true := by
      cases e : ltN x y with
      | true => rfl
      | false =>
        have h1 := (List.pairwise_cons.1 hs).1 y (List.mem_cons_self ..)
        exact absurd (ltN_total e h1) (by have := hn 0 (by simp); simpa using this)
    refine List.pairwise_cons.2 ⟨fun z hz => ?_, ih⟩
    rcases List.mem_cons.1 hz with h | h
    · subst h; exact hxy
    · exact swoN.trans x y z hxy ((List.pairwise_cons.1 ih).1 z h)

/-! ### Merging -/
theorem le_trans (a b c : NV) (h1 : leN a b = true) (h2 : leN b c = true) : leN a c = true := by
  unfold leN at *
  simp only [Bool.not_eq_true'] at *
  exact swoN.ntrans c b a h2 h1
theorem le_total (a b : NV) : (leN a b || leN b a) = true := by
  unfold leN
  cases e : ltN b a with
  | false => rfl
  | true => simp [asym e]
theorem sorted_iff (L : List NV) : SortedL L ↔ L.Pairwise (fun a b => leN a b = true) := by
  unfold SortedL leN; simp
theorem merge_sorted {A B : List NV} (hA : SortedL A) (hB : SortedL B) : SortedL (A.merge B leN) := by
  rw [sorted_iff] at *
  exact List.pairwise_merge le_trans le_total A B hA hB
theorem merge_perm (A B : List NV) : (A.merge B leN).Perm (A ++ B) := List.merge_perm_append leN
theorem merge_left {x y : NV} {A B : List NV} (h : ltN y x = false) : (x :: A).merge (y :: B) leN = x :: A.merge (y :: B) leN := by
  simp [leN, h]
theorem merge_right {x y : NV} {A B : List NV} (h : ltN y x = true) : (x :: A).merge (y :: B) leN = y :: (x :: A).merge B leN := by
  simp [leN, h]

/-- L from i to j. -/
def sl (L : List NV) (i j : Nat) : List NV := (L.take j).drop i
theorem sl_cons {L : List NV} {i j : Nat} (h : i < j) (hj : j ≤ L.length) : sl L i j = L.getD i default :: sl L (i + 1) j := by
  unfold sl
  have hl : i < (L.take j).length := by simp; omega
  rw [List.drop_eq_getElem_cons hl]
  congr 1
  simp [show i < L.length by omega]
theorem sl_nil {L : List NV} {i j : Nat} (h : j ≤ i) : sl L i j = [] := by
  unfold sl
  exact List.drop_eq_nil_of_le (by simp; omega)

/-- One pass of the merge sort: neighbouring runs of w are merged. -/
def pass (w : Nat) : Nat → List NV → List NV
  | 0, L => L
  | f + 1, L => if L = [] then [] else (L.take w).merge ((L.drop w).take w) leN ++ pass w f (L.drop (2 * w))
/-- .. with fuel enough. -/
def pss (w : Nat) (L : List NV) : List NV := pass w L.length L
theorem pass_fuel (w : Nat) (hw : 0 < w) : ∀ (f g : Nat) (L : List NV), L.length ≤ f → L.length ≤ g → pass w f L = pass w g L := by
  intro f
  induction f with
  | zero =>
    intro g L hf hg
    have : L = [] := List.eq_nil_of_length_eq_zero (by omega)
    subst this
    cases g <;> simp [pass]
  | succ f ih =>
    intro g L hf hg
    cases g with
    | zero =>
      have : L = [] := List.eq_nil_of_length_eq_zero (by omega)
      subst this; simp [pass]
    | succ g =>
      unfold pass
      by_cases e : L = []
      · simp [e]
      · have hl : 0 < L.length := List.length_pos_iff.2 e
        rw [if_neg e, if_neg e, ih g (L.drop (2 * w)) (by simp; omega) (by simp; omega)]
theorem pss_nil (w : Nat) : pss w [] = [] := rfl
theorem pss_step {w : Nat} (hw : 0 < w) {L : List NV} (h : L ≠ []) : pss w L = (L.take w).merge ((L.drop w).take w) leN ++ pss w (L.drop (2 * w)) := by
  unfold pss
  have hl : 0 < L.length := List.length_pos_iff.2 h
  obtain ⟨n, hn⟩ : ∃ n, L.length = n + 1 := ⟨L.length - 1, by omega⟩
  rw [hn]
  show (if L = [] then [] else _) = _
  rw [if_neg h]
  congr 1
  exact pass_fuel w hw _ _ _ (by simp; omega) (Nat.le_refl _)
theorem pss_perm {w : Nat} (hw : 0 < w) : ∀ (n : Nat) (L : List NV), L.length ≤ n → (pss w L).Perm L := by
  intro n
  induction n with
  | zero =>
    intro L hL
    have : L = [] := List.eq_nil_of_length_eq_zero (by omega)
    subst this; exact List.Perm.refl _
  | succ n ih =>
    intro L hL
    by_cases e : L = []
    · subst e; exact List.Perm.refl _
    · rw [pss_step hw e]
      have hl : 0 < L.length := List.length_pos_iff.2 e
      have h1 := merge_perm (L.take w) ((L.drop w).take w)
      have h2 := ih (L.drop (2 * w)) (by simp; omega)
      have h3 : L.take w ++ (L.drop w).take w ++ L.drop (2 * w) = L := by
        rw [List.append_assoc, show 2 * w = w + w by omega, ← List.drop_drop, List.take_append_drop, List.take_append_drop]
      exact (h1.append h2).trans (by rw [h3])
/-- Runs of w are sorted. -/
def Runs (w : Nat) (L : List NV) : Prop := ∀ m, SortedL ((L.drop (m * w)).take w)
theorem runs_one (L : List NV) : Runs 1 L := fun m => by
  unfold SortedL
  match h : (L.drop (m * 1)).take 1 with
  | [] => exact List.Pairwise.nil
  | [x] => exact List.pairwise_singleton _ _
  | _ :: _ :: _ => have := congrArg List.length h; simp at this; omega
theorem runs_drop {w : Nat} {L : List NV} (h : Runs w L) : Runs w (L.drop (2 * w)) := fun m => by
  have := h (m + 2)
  rwa [show (m + 2) * w = 2 * w + m * w by rw [Nat.add_mul]; omega, ← List.drop_drop] at this
theorem runs_pass {w : Nat} (hw : 0 < w) : ∀ (m : Nat) (L : List NV), Runs w L → SortedL (((pss w L).drop (m * (2 * w))).take (2 * w)) := by
  intro m
  induction m with
  | zero =>
    intro L h
    by_cases e : L = []
    · subst e; simp [pss_nil]; exact List.Pairwise.nil
    · rw [pss_step hw e]
      have hm : SortedL ((L.take w).merge ((L.drop w).take w) leN) := merge_sorted (by simpa using h 0) (by simpa using h 1)
      have hlen : ((L.take w).merge ((L.drop w).take w) leN).length = min w L.length + min w (L.length - w) := by
        rw [(merge_perm _ _).length_eq]; simp
      simp only [Nat.zero_mul, List.drop_zero]
      by_cases hl : 2 * w ≤ L.length
      · rw [List.take_append_of_le_length (by rw [hlen]; omega)]
        exact List.Pairwise.sublist (List.take_sublist _ _) hm
      · have e2 : L.drop (2 * w) = [] := List.drop_eq_nil_of_le (by omega)
        rw [e2, pss_nil, List.append_nil]
        exact List.Pairwise.sublist (List.take_sublist _ _) hm
  | succ m ih =>
    intro L h
    by_cases e : L = []
    · subst e; simp [pss_nil]; exact List.Pairwise.nil
    · rw [pss_step hw e]
      have hlen : ((L.take w).merge ((L.drop w).take w) leN).length = min w L.length + min w (L.length - w) := by
        rw [(merge_perm _ _).length_eq]; simp
      by_cases hl : 2 * w ≤ L.length
      · have := ih (L.drop (2 * w)) (runs_drop h)
        rw [show (m + 1) * (2 * w) = 2 * w + m * (2 * w) by rw [Nat.add_mul]; omega, ← List.drop_drop, List.drop_append_of_le_length (by rw [hlen]; omega), show ((L.take w).merge ((L.drop w).take w) leN).drop (2 * w) = [] from List.drop_eq_nil_of_le (by rw [hlen]; omega), List.nil_append]
        exact this
      · have e2 : L.drop (2 * w) = [] := List.drop_eq_nil_of_le (by omega)
        rw [e2, pss_nil, List.append_nil, List.drop_eq_nil_of_le (by rw [hlen, Nat.add_mul]; omega)]
        rw [List.take_nil]; exact List.Pairwise.nil
theorem runs_double {w : Nat} (hw : 0 < w) {L : List NV} (h : Runs w L) : Runs (w * 2) (pss w L) := fun m => by
  rw [Nat.mul_comm w 2]; exact runs_pass hw m L h
theorem runs_sorted {w : Nat} {L : List NV} (h : Runs w L) (hl : L.length ≤ w) : SortedL L := by
  have := h 0
  rw [Nat.zero_mul, List.drop_zero, List.take_of_length_le hl] at this
  exact this
/-- A pass taken apart at lo. -/
theorem pss_at {w lo mid hi : Nat} (hw : 0 < w) {L : List NV} (h : lo < L.length) (hm : mid = min (lo + w) L.length) (hh : hi = min (lo + 2 * w) L.length) :
    pss w (L.drop lo) = (sl L lo mid).merge (sl L mid hi) leN ++ pss w (L.drop hi) := by
  have e : L.drop lo ≠ [] := fun x => by have := congrArg List.length x; simp at this; omega
  rw [pss_step hw e]
  have e1 : (L.drop lo).take w = sl L lo mid := by
    unfold sl
    rw [List.drop_take, hm]
    by_cases hc : lo + w ≤ L.length
    · rw [Nat.min_eq_left hc]; congr 1; omega
    · rw [Nat.min_eq_right (by omega), List.take_of_length_le (by simp; omega), List.take_of_length_le (by simp)]
  have e2 : ((L.drop lo).drop w).take w = sl L mid hi := by
    rw [List.drop_drop]
    unfold sl
    rw [List.drop_take, hm, hh]
    by_cases hc : lo + w ≤ L.length
    · rw [Nat.min_eq_left hc]
      by_cases hd : lo + 2 * w ≤ L.length
      · rw [Nat.min_eq_left hd]; congr 1; omega
      · rw [Nat.min_eq_right (by omega), List.take_of_length_le (by simp; omega), List.take_of_length_le (by simp)]
    · rw [Nat.min_eq_right (by omega), Nat.min_eq_right (by omega), List.drop_eq_nil_of_le (by omega), List.drop_eq_nil_of_le (by omega)]; simp
  have e3 : (L.drop lo).drop (2 * w) = L.drop hi := by
    rw [List.drop_drop, hh]
    by_cases hd : lo + 2 * w ≤ L.length
    · rw [Nat.min_eq_left hd]
    · rw [Nat.min_eq_right (by omega), List.drop_eq_nil_of_le (by omega), List.drop_eq_nil_of_le (by omega)]
  rw [e1, e2, e3]
end Go.Proofs.Qxb6616369a.Plain
