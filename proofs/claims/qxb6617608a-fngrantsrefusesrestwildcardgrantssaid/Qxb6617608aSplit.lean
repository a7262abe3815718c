/-
  The walk of FnGrantsSplitAndInsertedPerm.
-/
import Derived.Test.Qxb6617608aLeaves
import Derived.Laws.CopyOwn
namespace Go.Proofs.Qxb6617608a
open Go.RowKit Plain

theorem q22 (w : World) (a : Option Addr) (n c n' c' : Nat) : (binOp .neq 22 (.slice a n c) (.slice none n' c')).run Try.prog w = .ok (.bool (!a.isNone)) w := run_neq_slice_nil_any w _ _ a n c n' c' Try.underlying22
theorem Try.size9 : (Try.prog.info? 9).map (·.size) = some 1 := by kernel_rfl

theorem VRow.ofHeap {w : World} {g n : Nat} {t : TypeId} {L : List Value} {V : Nat → Value} (h : w.heap[g]? = some (.cells L.toArray t (0, 0))) (hL : ∀ j, j < n → L[j]? = some (V j)) : VRow w g n V := by
  have hg : g < w.heap.size := by
    by_cases hg : g < w.heap.size
    · exact hg
    · rw [Array.getElem?_eq_none (by omega)] at h
      cases h
  refine ⟨hg, fun j hj => ?_, fun j => frozen_of_row w g j L.toArray t h⟩
  rw [cell_of_row w g j L.toArray t (0, 0) h]
  simpa using hL j hj

/-- The strings of a row as a list of cells. -/
def cellsL (N : Nat → ByteArray) (n : Nat) : List Value := (List.range n).map (fun j => Value.string (N j))
theorem cellsL_len (N : Nat → ByteArray) (n : Nat) : (cellsL N n).length = n := by simp [cellsL]
theorem cellsL_at {N : Nat → ByteArray} {n j : Nat} (h : j < n) : (cellsL N n)[j]? = some (.string (N j)) := by simp [cellsL, h]
theorem cellsL_of {N : Nat → ByteArray} {n j : Nat} {v : Value} (h : (cellsL N n)[j]? = some v) : j < n ∧ v = .string (N j) := by
  by_cases hj : j < n
  · rw [cellsL_at hj] at h
    exact ⟨hj, (Option.some.inj h).symm⟩
  · rw [List.getElem?_eq_none (by rw [cellsL_len]; omega)] at h
    cases h
theorem cellsL_one {N : Nat → ByteArray} {n : Nat} : ∀ v ∈ cellsL N n, v.oneCell' = true := by
  intro v hv
  obtain ⟨_, _, rfl⟩ := List.mem_map.1 hv
  rfl
theorem splice_cells {N : Nat → ByteArray} {n : Nat} (cur : List Value) : ∀ j, j < n → (splice cur 0 (cellsL N n))[j]? = some (.string (N j)) := by
  intro j hj
  simp only [splice, List.take_zero, List.nil_append]
  rw [List.getElem?_append_left (by rw [cellsL_len]; exact hj), cellsL_at hj]

theorem copy_from {w1 : World} {y : Addr} {n : Nat} {N : Nat → ByteArray} (h : ReadsS w1 (some y) n N) : 0 < (cellsL N n).length → ∀ (j : Nat) (v : Value), (cellsL N n)[j]? = some v → w1.cell? (y.add j) = some v := by
  intro hn j v hv
  rw [cellsL_len] at hn
  obtain ⟨b, off, e, hb, hc⟩ := h hn
  obtain rfl := Option.some.inj e
  obtain ⟨hj, rfl⟩ := cellsL_of hv
  rw [show (⟨b, off, none⟩ : Addr).add j = ⟨b, off + j, none⟩ from by unfold Addr.add; split <;> simp_all]
  exact hc j hj

theorem ReadsS.left {w : World} {a : Option Addr} {n i : Nat} {N : Nat → ByteArray} (h : ReadsS w a n N) (hi : i ≤ n) : ReadsS w a i N := fun hn => by
  obtain ⟨b, off, e, hb, hc⟩ := h (by omega)
  exact ⟨b, off, e, hb, fun j hj => hc j (by omega)⟩

theorem ReadsS.right {w : World} {g n i : Nat} {N : Nat → ByteArray} (h : ReadsS w (some ⟨g, 0, none⟩) n N) (hi : i ≤ n) : ReadsS w (some ⟨g, i, none⟩) (n - i) (fun j => N (i + j)) := fun hn => by
  obtain ⟨b, off, e, hb, hc⟩ := h (by omega)
  simp only [Option.some.injEq, Addr.mk.injEq, and_true] at e
  obtain ⟨rfl, rfl⟩ := e
  exact ⟨g, i, rfl, hb, fun j hj => by have := hc (i + j) (by omega); rwa [Nat.zero_add] at this⟩

set_option maxHeartbeats 1600000 in
set_option maxRecDepth 100000 in
theorem split_walk (a : Option Addr) (n c : Nat) (p : ByteArray) (x : Int) (N : Nat → ByteArray) (w : World) (hnil : Hid (a = none → n = 0 ∧ c = 0)) (h : ReadsS w a n N) (hm : n ≤ maxLen) (hs : ∀ i, i < n → (N i).size ≤ maxLen) (hp : p.size ≤ maxLen) :
    Calls Try.prog 3 #[.slice a n c, .string p, .int .i64 x] w fun e w' => e = .returned (.bool true) ∧ Below w.heap.size w w' := by
  have HS : Hid (∀ i, i < n → (N i).size ≤ maxLen) := hs
  clear hs
  have HM : Hid (n ≤ maxLen) := hm
  have HP : Hid (p.size ≤ maxLen) := hp
  unfold maxLen at hm hp
  have q := q22
  obtain ⟨i0, hi, hz0, hz1, hz2⟩ := info_parts Try.info9
  go_enter Try.func3, Try.ntmps3
  go_wp2_with fail
  refine (bytes1_any a n c p x N w h HM.out HS.out HP.out).mono ?_
  rintro e w' ⟨⟨b, rfl, hb⟩, rfl⟩
  by_cases hb' : b = true
  case neg =>
    obtain rfl : b = false := by simpa using hb'
    go_wp2_with fail
    go_ret
    exact ⟨rfl, Below.refl _ _⟩
  subst hb'
  have s0 : n ≤ 1048576 := (hb rfl).1
  have HN : Hid (∀ i, i < n → (N i).size ≤ 1048576) := (hb rfl).2
  clear hb HS
  by_cases t0 : p.size ≤ 1048576
  case neg =>
    go_wp2_with fail
    go_ret
    exact ⟨rfl, Below.refl _ _⟩
  by_cases t1 : n ≤ 65536
  case neg =>
    go_wp2_with fail
    go_ret
    exact ⟨rfl, Below.refl _ _⟩
  go_wp2_with fail
  refine (sizeOK_any a n c p N w' h t1 HN t0).mono ?_
  rintro e w ⟨⟨b, rfl, _⟩, rfl⟩
  by_cases hb' : b = true
  case neg =>
    obtain rfl : b = false := by simpa using hb'
    go_wp2_with fail
    go_ret
    exact ⟨rfl, Below.refl _ _⟩
  subst hb'
  by_cases g1 : x < 0
  · go_wp2_with fail
    go_ret
    exact ⟨rfl, Below.refl _ _⟩
  by_cases g2 : (n : Int) < x
  · go_wp2_with fail
    go_ret
    exact ⟨rfl, Below.refl _ _⟩
  obtain ⟨i, rfl⟩ : ∃ i : Nat, x = (i : Int) := ⟨x.toNat, by omega⟩
  have hin : i ≤ n := by omega
  cases a with
  | none =>
    obtain ⟨rfl, rfl⟩ := hnil.out rfl
    obtain rfl : i = 0 := by omega
    clear hi hz0 hz1 hz2
    clear q h hnil HN
    go_wp2_with fail
    refine (grants_any none 0 0 N p w (fun h => by omega) (by omega)).mono ?_
    rintro e w3 ⟨rfl, hB3⟩
    rw [show anyK (fun j => hit p (N j)) 0 = false from rfl]
    go_wp2_with fail
    refine (grants_any _ 0 0 N p w3 (fun h => by omega) (by omega)).mono ?_
    rintro e w4 ⟨rfl, hB4⟩
    rw [show anyK (fun j => hit p (N j)) 0 = false from rfl]
    have hB04 := hB3.trans (hB4.mono hB3.size)
    clear hB3 hB4
    go_wp2_with fail
    refine (grants_any _ 0 0 N p w4 (fun h => by omega) (by omega)).mono ?_
    rintro e w5 ⟨rfl, hB5⟩
    rw [show anyK (fun j => hit p (N j)) 0 = false from rfl]
    have hB05 := hB04.trans (hB5.mono hB04.size)
    clear hB04 hB5
    go_wp2_with fail
    refine (insert_any _ 0 0 0 N p w5 (fun h => by omega) (by omega) (by omega)).mono ?_
    rintro e w6 ⟨rfl, hB6, hV6⟩
    have hB06 := hB05.trans (hB6.mono hB05.size)
    clear hB6 hB05
    go_wp2_with fail
    refine (grants_any _ 1 1 (ins N 0 p) p w6 hV6.reads (by omega)).mono ?_
    rintro e w7 ⟨rfl, hB7⟩
    have hB07 := hB06.trans (hB7.mono hB06.size)
    rw [anyK_of (i := 0) (n := 1) (by omega) (by rw [ins_at]; exact hit_self p)]
    clear hV6 hB7 hB06
    go_wp2_with fail
    go_ret
    exact ⟨rfl, hB07⟩
  | some y =>
    clear hnil
    go_wp2_with (at_make; refine wpList_make_full _ rfl _ _ 22 rfl w.heap.size 9 i0 (.string ByteArray.empty) 1 Try.underlying22 hi hz0 hz1 _ _ _ _ n rfl rfl rfl rfl ?b1 ?b2 ?b3 ?_)
    case b1 => first | omega | (rw [hz2]; omega)
    case b2 => unfold maxLen; omega
    case b3 => exact Nat.le_refl _
    intro w1 hown hgrow
    clear hi hz0 hz1 hz2
    have hB1 : Below w.heap.size w w1 := (Below.refl _ _).grown hgrow (Nat.le_refl _) (fun k h => by cases h)
    obtain ⟨cur, hcur, hlen⟩ : ∃ cur : List Value, w1.heap[w.heap.size]? = some (.cells cur.toArray 9 (0, 0)) ∧ cur.length = n := by
      rcases hown.2 with ⟨h0, _⟩ | ⟨g, cp, cur, hv, _, hg, _, _, hcs, _⟩
      · cases h0
      · simp only [Value.slice.injEq, Option.some.injEq, Addr.mk.injEq, and_true, true_and] at hv
        obtain ⟨rfl, rfl⟩ := hv
        exact ⟨cur.toList, by simpa using hg, by simpa using hcs⟩
    have HC : Hid (w1.heap[w.heap.size]? = some (.cells cur.toArray 9 (0, 0))) := hcur
    have HL : Hid (cur.length = n) := hlen
    have h1 := h.below hB1
    clear hown hgrow hcur hlen
    go_wp2_with (refine wpList_copy_splice rfl _ _ 22 22 rfl 9 Try.underlying22 Try.size9 (some ⟨w.heap.size, 0, none⟩) (some y) n n n c rfl rfl w.heap.size 0 cur 9 HC.out (cellsL N n) ?c1 ?c2 ?c3 ?c4 w.heap.size w hB1 (Nat.le_refl _) ?_)
    case c1 => rw [cellsL_len]; exact (Nat.min_self n).symm
    case c2 => exact copy_from h1
    case c3 => rw [cellsL_len, HL.out]; omega
    case c4 => exact cellsL_one
    intro w2 hw2 hB2
    have hV := VRow.ofHeap hw2.out (splice_cells (N := N) (n := n) cur)
    clear hw2 HC HL h1 hB1
    go_wp2_with fail
    refine (grants_any (some ⟨w.heap.size, 0, none⟩) n n N p w2 hV.reads (by omega)).mono ?_
    rintro e w3 ⟨rfl, hB3⟩
    obtain ⟨bW, hbW⟩ : ∃ b, b = anyK (fun j => hit p (N j)) n := ⟨_, rfl⟩
    rw [← hbW]
    have HW : Hid (bW = anyK (fun j => hit p (N j)) n) := hbW
    have hR3 := ReadsS.below hV.reads hB3
    clear hbW
    go_wp2_with fail
    refine (grants_any _ i n N p w3 (hR3.left hin) (by omega)).mono ?_
    rintro e w4 ⟨rfl, hB4⟩
    obtain ⟨bL, hbL⟩ : ∃ b, b = anyK (fun j => hit p (N j)) i := ⟨_, rfl⟩
    rw [← hbL]
    have HL : Hid (bL = anyK (fun j => hit p (N j)) i) := hbL
    have hR4 := hR3.below hB4
    have hB03 := hB2.trans (hB3.mono hB2.size)
    have hB04 := hB03.trans (hB4.mono hB03.size)
    clear hbL hB4 hB3 hR3 hB03 hB2 hV h q
    go_wp2_with fail
    case inl =>
      obtain rfl : i = n := by omega
      refine (grants_any _ 0 0 (fun j => N (i + j)) p w4 (fun h => by omega) (by omega)).mono ?_
      rintro e w5 ⟨rfl, hB5⟩
      obtain ⟨bR, hbR⟩ : ∃ b, b = anyK (fun j => hit p (N (i + j))) 0 := ⟨_, rfl⟩
      rw [← hbR]
      have hR5 := hR4.below hB5
      have hB05 := hB04.trans (hB5.mono hB04.size)
      have law : bW = (bL || bR) := by rw [HW.out, HL.out, hbR]; simp [anyK]
      clear hbR HW HL hR4 hB5 hB04
      go_wp2_with fail
      refine (insert_any _ i _ i N p w5 hR5 (by omega) (by omega)).mono ?_
      rintro e w6 ⟨rfl, hB6, hV6⟩
      have hB06 := hB05.trans (hB6.mono hB05.size)
      clear hR5 hB6 hB05
      go_wp2_with fail
      refine (grants_any _ (i + 1) (i + 1) (ins N i p) p w6 hV6.reads (by omega)).mono ?_
      rintro e w7 ⟨rfl, hB7⟩
      have hB07 := hB06.trans (hB7.mono hB06.size)
      rw [anyK_of (i := i) (n := i + 1) (by omega) (by rw [ins_at]; exact hit_self p)]
      clear hV6 hB7 hB06
      cases bL with
      | true =>
        obtain rfl : bW = true := by simpa using law
        clear law
        go_wp2_with fail
        go_ret
        exact ⟨rfl, hB07⟩
      | false =>
        obtain rfl : bW = bR := by simpa using law
        clear law
        cases bW with
        | true =>
          go_wp2_with fail
          go_ret
          exact ⟨rfl, hB07⟩
        | false =>
          go_wp2_with fail
          go_ret
          exact ⟨rfl, hB07⟩
    case inr =>
      refine (grants_any _ (n - i) (n - i) (fun j => N (i + j)) p w4 ?hr (by omega)).mono ?_
      case hr => exact hR4.right hin
      rintro e w5 ⟨rfl, hB5⟩
      obtain ⟨bR, hbR⟩ : ∃ b, b = anyK (fun j => hit p (N (i + j))) (n - i) := ⟨_, rfl⟩
      rw [← hbR]
      have hR5 := hR4.below hB5
      have hB05 := hB04.trans (hB5.mono hB04.size)
      have law : bW = (bL || bR) := by rw [HW.out, HL.out, hbR]; exact anyK_cut _ n i hin
      clear hbR HW HL hR4 hB5 hB04
      go_wp2_with fail
      refine (insert_any _ n _ i N p w5 hR5 (by omega) (by omega)).mono ?_
      rintro e w6 ⟨rfl, hB6, hV6⟩
      have hB06 := hB05.trans (hB6.mono hB05.size)
      clear hR5 hB6 hB05
      go_wp2_with fail
      refine (grants_any _ (n + 1) (n + 1) (ins N i p) p w6 hV6.reads (by omega)).mono ?_
      rintro e w7 ⟨rfl, hB7⟩
      have hB07 := hB06.trans (hB7.mono hB06.size)
      rw [anyK_of (i := i) (n := n + 1) (by omega) (by rw [ins_at]; exact hit_self p)]
      clear hV6 hB7 hB06
      cases bL with
      | true =>
        obtain rfl : bW = true := by simpa using law
        clear law
        go_wp2_with fail
        go_ret
        exact ⟨rfl, hB07⟩
      | false =>
        obtain rfl : bW = bR := by simpa using law
        clear law
        cases bW with
        | true =>
          go_wp2_with fail
          go_ret
          exact ⟨rfl, hB07⟩
        | false =>
          go_wp2_with fail
          go_ret
          exact ⟨rfl, hB07⟩
end Go.Proofs.Qxb6617608a
