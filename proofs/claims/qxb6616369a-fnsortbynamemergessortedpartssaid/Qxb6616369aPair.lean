/-
  Rows of pairs of strings (a name and its value): what a block holds, how it is made, stored to and copied.
-/
import Derived.Test.Qxb6616369aHdrLeaves
import Derived.Test.Qxb6616369aPlain
import Derived.Laws.CopyOwn
namespace Go.Proofs.Qxb6616369a
open Go.RowKit Plain

/-- The name at place i. -/
def nm (L : List NV) (i : Nat) : ByteArray := (L.getD i default).1
/-- The value at place i. -/
def vl (L : List NV) (i : Nat) : ByteArray := (L.getD i default).2
/-- The cells of a row of pairs. -/
def pv (L : List NV) (j : Nat) : Value := if j % 2 = 0 then .string (nm L (j / 2)) else .string (vl L (j / 2))
/-- Block g holds the pairs L. -/
def PR (w : World) (g : Nat) (L : List NV) : Prop := VRow w g (2 * L.length) (pv L)
/-- A slice at ao reads as L. -/
def RP (w : World) (ao : Option Addr) (L : List NV) : Prop :=
  0 < L.length → ∃ b off, ao = some ⟨b, off, none⟩ ∧ b < w.heap.size ∧ ∀ i, i < L.length → w.cell? ⟨b, off + i * 2, none⟩ = some (.string (nm L i)) ∧ w.cell? ⟨b, off + i * 2 + 1, none⟩ = some (.string (vl L i))

theorem pv_even (L : List NV) (i : Nat) : pv L (i * 2) = .string (nm L i) := by
  unfold pv; rw [if_pos (by omega), show i * 2 / 2 = i by omega]
theorem pv_odd (L : List NV) (i : Nat) : pv L (i * 2 + 1) = .string (vl L i) := by
  unfold pv; rw [if_neg (by omega), show (i * 2 + 1) / 2 = i by omega]
theorem PR.c0 {w : World} {g : Nat} {L : List NV} (h : PR w g L) {i n : Nat} (hL : Hid (L.length = n)) (hi : i < n) : w.cell? ⟨g, i * 2, none⟩ = some (.string (nm L i)) := by
  rw [h.cell _ (by have := hL.out; omega), pv_even]
theorem PR.c1 {w : World} {g : Nat} {L : List NV} (h : PR w g L) {i n : Nat} (hL : Hid (L.length = n)) (hi : i < n) : w.cell? ⟨g, i * 2 + 1, none⟩ = some (.string (vl L i)) := by
  rw [h.cell _ (by have := hL.out; omega), pv_odd]
theorem PR.f {w : World} {g : Nat} {L : List NV} (h : PR w g L) (j : Nat) : w.frozen? ⟨g, j, none⟩ = false := VRow.free h j
theorem PR.reads {w : World} {g : Nat} {L : List NV} (h : PR w g L) : RP w (some ⟨g, 0, none⟩) L :=
  fun _ => ⟨g, 0, rfl, VRow.lt h, fun i hi => by
    rw [Nat.zero_add]
    exact ⟨h.c0 (n := L.length) (show _ = _ from rfl) hi, h.c1 (n := L.length) (show _ = _ from rfl) hi⟩⟩
theorem RP.below {w w' : World} {a : Option Addr} {L : List NV} (h : RP w a L) (t : Below w.heap.size w w') : RP w' a L := fun hn => by
  obtain ⟨b, off, hx, hb, hc⟩ := h hn
  exact ⟨b, off, hx, Nat.lt_of_lt_of_le hb t.size, fun i hi => ⟨(t.cell hb).trans (hc i hi).1, (t.cell hb).trans (hc i hi).2⟩⟩
theorem RP.at {w : World} {a : Option Addr} {L : List NV} (h : RP w a L) {n : Nat} (hL : Hid (L.length = n)) (hn : 0 < n) :
    ∃ b off, a = some ⟨b, off, none⟩ ∧ b < w.heap.size ∧ ∀ i, i < n → w.cell? ⟨b, off + i * 2, none⟩ = some (.string (nm L i)) ∧ w.cell? ⟨b, off + i * 2 + 1, none⟩ = some (.string (vl L i)) := by
  have e := hL.out
  subst e
  exact h hn
theorem PR.below {w w' : World} {g : Nat} {L : List NV} (h : PR w g L) (t : Below w.heap.size w w') : PR w' g L := VRow.below h t
theorem pv_set (L : List NV) (x : NV) (i j : Nat) (hi : i < L.length) : pv (L.set i x) j = if j = i * 2 + 1 then .string x.2 else if j = i * 2 then .string x.1 else pv L j := by
  have hg : ∀ k, (L.set i x).getD k default = if k = i then x else L.getD k default := by
    intro k
    by_cases e : k = i
    · subst e; simp [hi]
    · rw [if_neg e]; simp [Ne.symm e]
  unfold pv nm vl
  rw [hg]
  by_cases e1 : j = i * 2 + 1
  · rw [if_pos e1, if_neg (by omega), if_pos (by omega)]
  · rw [if_neg e1]
    by_cases e2 : j = i * 2
    · rw [if_pos e2, if_pos (by omega), if_pos (by omega)]
    · rw [if_neg e2, if_neg (show ¬ j / 2 = i by omega)]
theorem PR.set {w : World} {g : Nat} {L : List NV} (h : PR w g L) {i n : Nat} (hL : Hid (L.length = n)) (hi : i < n) (x : NV) :
    PR ((w.setCell ⟨g, i * 2, none⟩ (.string x.1)).setCell ⟨g, i * 2 + 1, none⟩ (.string x.2)) g (L.set i x) := by
  have hl := hL.out
  unfold PR
  rw [List.length_set]
  exact ((VRow.set h (j := i * 2) (by omega) _).set (j := i * 2 + 1) (by omega) _).congr (fun j _ => (pv_set L x i j (by omega)).symm)
theorem PR.drew {w : World} {g : Nat} {L : List NV} (h : PR w g L) : PR w.drew g L := VRow.drew h
theorem PR.other {w : World} {g : Nat} {L : List NV} (h : PR w g L) {p : Addr} (hp : p.block ≠ g) (u : Value) : PR (w.setCell p u) g L := VRow.setOther h hp u

theorem run_storeCells_vrow (P : Program) (g m : Nat) : ∀ (vs : List Value) (i : Nat) (w : World) (V : Nat → Value), VRow w g m V → i + vs.length ≤ m → (∀ v ∈ vs, v.oneCell' = true) →
    ∃ w', (storeCells ⟨g, 0, none⟩ vs i).run P w = .ok () w' ∧ VRow w' g m (fun x => if i ≤ x ∧ x < i + vs.length then vs.getD (x - i) undef else V x) ∧ Touch (· = g) w w'
  | [], i, w, V, hV, _, _ => ⟨w, rfl, hV.congr (fun j _ => by rw [if_neg (by simp)]), Touch.refl _ _⟩
  | v :: rest, i, w, V, hV, hl, h1 => by
    simp only [List.length_cons] at hl
    have hadd : (⟨g, 0, none⟩ : Addr).add i = ⟨g, i, none⟩ := by unfold Addr.add; split <;> simp_all
    have hst : (store ((⟨g, 0, none⟩ : Addr).add i) v).run P w = .ok () (w.setCell ⟨g, i, none⟩ v) := by
      rw [hadd, run_store P w _ v _ (h1 v (by simp)), hV.cell i (by omega)]
      simp [hV.free i]
    obtain ⟨w', hr, hV', hT⟩ := run_storeCells_vrow P g m rest (i + 1) _ _ (hV.set (j := i) (by omega) v) (by omega) (fun x hx => h1 x (by simp [hx]))
    refine ⟨w', by simp only [storeCells, Sem.run_bind, hst, Result.andThen_ok, hr], hV'.congr (fun j hj => ?_), ((Touch.refl (· = g) w).setCell (p := ⟨g, i, none⟩) rfl v).trans hT⟩
    by_cases e : j = i
    · subst e
      rw [if_neg (by omega), if_pos rfl, if_pos (by simp)]
      simp
    · rw [if_neg e]
      by_cases e2 : i + 1 ≤ j ∧ j < i + 1 + rest.length
      · rw [if_pos e2, if_pos (by simp only [List.length_cons]; omega)]
        rw [show j - i = (j - (i + 1)) + 1 by omega]
        simp
      · rw [if_neg e2, if_neg (by simp only [List.length_cons]; omega)]

/-- The cells of a row of pairs, as a list. -/
def cellsP : List NV → List Value
  | [] => []
  | x :: L => .string x.1 :: .string x.2 :: cellsP L
theorem length_cellsP : ∀ L, (cellsP L).length = 2 * L.length
  | [] => rfl
  | x :: L => by simp only [cellsP, List.length_cons, length_cellsP L]; omega
theorem cellsP_at : ∀ (L : List NV) (j : Nat), j < 2 * L.length → (cellsP L)[j]? = some (pv L j)
  | [], j, h => by simp at h
  | x :: L, 0, _ => rfl
  | x :: L, 1, _ => rfl
  | x :: L, j + 2, h => by
    have ih := cellsP_at L j (by simp at h; omega)
    simp only [cellsP, List.getElem?_cons_succ, ih]
    unfold pv nm vl
    rw [show (j + 2) % 2 = j % 2 by omega, show (j + 2) / 2 = j / 2 + 1 by omega]
    simp
theorem cellsP_one : ∀ (L : List NV), ∀ v ∈ cellsP L, v.oneCell' = true
  | [], v, h => by simp [cellsP] at h
  | x :: L, v, h => by
    simp only [cellsP, List.mem_cons] at h
    rcases h with h | h | h
    · subst h; rfl
    · subst h; rfl
    · exact cellsP_one L v h
theorem RP.cells {w : World} {a : Option Addr} {L : List NV} (h : RP w a L) (hn : 0 < L.length) : ∃ ad, a = some ad ∧ ∀ j v, (cellsP L)[j]? = some v → w.cell? (ad.add j) = some v := by
  obtain ⟨b, off, ha, _, hc⟩ := h hn
  refine ⟨_, ha, fun j v hv => ?_⟩
  have hj : j < 2 * L.length := by
    have := (List.getElem?_eq_some_iff.1 hv).1
    rwa [length_cellsP] at this
  rw [cellsP_at L j hj] at hv
  have hadd : (⟨b, off, none⟩ : Addr).add j = ⟨b, off + j, none⟩ := by unfold Addr.add; split <;> simp_all
  rw [hadd, ← hv]
  unfold pv
  by_cases e : j % 2 = 0
  · rw [if_pos e, ← (hc (j / 2) (by omega)).1]; congr 2; omega
  · rw [if_neg e, ← (hc (j / 2) (by omega)).2]; congr 2; omega

/-- 'copy' of the whole of L into a row of its length. -/
theorem wpList_copyP {P : Program} {w : World} {ops : Array Oper} {rest : List Oper} {o : Oper} {a : Act} {Q : Exit → Act → World → Prop} (hgd : o.guard = none) (d s : Operand) (dT sT : TypeId)
    (ho : o.op = .call { callee := .builtin .copy, args := #[d, s], argTypes := #[dT, sT] }) (elem : TypeId) (hu : P.underlying dT = some (.slice elem)) (hsz : (P.info? elem).map (·.size) = some 2)
    (sp : Option Addr) (n dCap sCap g : Nat) (hd : a.eval d = .slice (some ⟨g, 0, none⟩) n dCap) (hs : a.eval s = .slice sp n sCap)
    (T L : List NV) (hT : PR w g T) (hTn : Hid (T.length = n)) (hL : RP w sp L) (hLn : Hid (L.length = n))
    (h : ∀ w', PR w' g L → Touch (· = g) w w' → wpList P ops Q rest (a.put o.dst (goInt n)) w') : wpList P ops Q (o :: rest) a w := by
  have eT := hTn.out
  have eL := hLn.out
  refine wpList_plain hgd fun K hK => ?_
  cases hq : P.info? elem with
  | none => simp [hq] at hsz
  | some i =>
    have hi : i.size = 2 := by simpa [hq] using hsz
    by_cases h0 : n = 0
    · subst h0
      have hl : ∀ (x : Addr), (loadCells x 0).run P w = .ok #[] w := fun x => by simpa using run_loadCells_list (P := P) w x [] (by simp)
      have hrun : (Builtin.copy_ #[dT, sT] o.type #[.slice (some ⟨g, 0, none⟩) 0 dCap, .slice sp 0 sCap]).run P w = .ok (goInt 0) w := by
        cases sp <;> simp [Builtin.copy_, run_underlying hu, Builtin.lenOf, Builtin.firstCells, sizeOf, typeInfo, hq, storeCells, hl]
      have hTL : T = L := by rw [List.eq_nil_of_length_eq_zero eT, List.eq_nil_of_length_eq_zero eL]
      unfold Oper.wp
      simp [execOp, ho, resolve, invoke, builtin, hd, hs, hrun, Result.andThen]
      exact hK _ _ (h w (hTL ▸ hT) (Touch.refl _ _))
    · obtain ⟨ad, rfl, hc⟩ := hL.cells (by omega)
      have hl := run_loadCells_list (P := P) w ad (cellsP L) hc
      rw [length_cellsP, eL, Nat.mul_comm] at hl
      obtain ⟨w', hst, hV', hTo⟩ := run_storeCells_vrow P g (2 * T.length) (cellsP L) 0 w _ hT (by rw [length_cellsP]; omega) (cellsP_one L)
      have hrun : (Builtin.copy_ #[dT, sT] o.type #[.slice (some ⟨g, 0, none⟩) n dCap, .slice (some ad) n sCap]).run P w = .ok (goInt n) w' := by
        simp [Builtin.copy_, run_underlying hu, Builtin.lenOf, Builtin.firstCells, sizeOf, typeInfo, hq, hi, hl, hst]
      unfold Oper.wp
      simp [execOp, ho, resolve, invoke, builtin, hd, hs, hrun, Result.andThen]
      refine hK _ _ (h w' ?_ hTo)
      unfold PR
      rw [eL, ← eT]
      refine hV'.congr (fun j hj => ?_)
      rw [length_cellsP, if_pos (by omega), Nat.sub_zero]
      simp [cellsP_at L j (by omega)]

/-- 'make' of n pairs. -/
theorem wpList_makeP {P : Program} (w : World) {ops : Array Oper} {rest : List Oper} {o : Oper} {a : Act} {Q : Exit → Act → World → Prop}
    (hg : o.guard = none) (l c : Operand) (t : TypeId) (hop : o.op = Op.makeSlice t l c)
    (e : TypeId) (h1 : P.underlying t = some (.slice e)) (hi : (P.info? e).map (fun i => (i.zero, i.size, i.bytes)) = some (some (.agg #[.string ByteArray.empty, .string ByteArray.empty]), 2, 32))
    (kl kc : IntKind) (A C : Int) (n : Nat) (hl : a.eval l = .int kl A) (hc : a.eval c = .int kc C) (hA : A = (n : Int)) (hC : C = (n : Int)) (hn : n ≤ 1048576)
    (hK : ∀ w', PR w' w.heap.size (List.replicate n (ByteArray.empty, ByteArray.empty)) → Below w.heap.size w w' → wpList P ops Q rest (a.put o.dst (.slice (some ⟨w.heap.size, 0, none⟩) n n)) w') :
    wpList P ops Q (o :: rest) a w := by
  obtain ⟨i, hi, hz0, hz1, hz2⟩ := info_parts hi
  refine wpList_make_full w hg l c t hop w.heap.size e i _ 2 h1 hi hz0 hz1 kl kc A C n hl hc hA hC (by rw [hz2]; omega) (by unfold maxLen; omega) (Nat.le_refl _) ?_
  intro w' hown hgrow
  refine hK w' ?_ ((Below.refl _ _).grown hgrow (Nat.le_refl _) (fun k h => by cases h))
  have hV := VRow.ofOwnsN hown (by have := hown.lt _ rfl; omega)
  unfold PR
  rw [List.length_replicate, Nat.mul_comm]
  refine hV.congr (fun j hj => ?_)
  have hx : (List.replicate n (ByteArray.empty, ByteArray.empty) : List NV).getD (j / 2) default = (ByteArray.empty, ByteArray.empty) := by
    simp [show j / 2 < n by omega]
  unfold pv nm vl
  rw [hx]
  simp only [madeCells, Value.cells]
  rcases Nat.mod_two_eq_zero_or_one j with e | e <;> simp [hj, e]
end Go.Proofs.Qxb6616369a
