/-
  The walk of FnGrantsRefusesRestWildcardGrants.
-/
import Derived.Test.Qxb6617608aSplit
namespace Go.Proofs.Qxb6617608a
open Go.RowKit Plain

set_option maxHeartbeats 1600000 in
set_option maxRecDepth 100000 in
theorem rest_walk (a : Option Addr) (n c : Nat) (p : ByteArray) (x : Int) (N : Nat → ByteArray) (w : World) (hnil : Hid (a = none → n = 0 ∧ c = 0)) (h : ReadsS w a n N) (hm : n ≤ maxLen) (hs : ∀ i, i < n → (N i).size ≤ maxLen) (hp : p.size ≤ maxLen) :
    Calls Try.prog 4 #[.slice a n c, .string p, .int .i64 x] w fun e w' => e = .returned (.bool true) ∧ Below w.heap.size w w' := by
  have HS : Hid (∀ i, i < n → (N i).size ≤ maxLen) := hs
  clear hs
  have HM : Hid (n ≤ maxLen) := hm
  have HP : Hid (p.size ≤ maxLen) := hp
  unfold maxLen at hm hp
  have q := q22
  obtain ⟨i0, hi, hz0, hz1, hz2⟩ := info_parts Try.info9
  go_enter Try.func4, Try.ntmps4
  go_wp2_with fail
  refine (bytes2_any a n c p x N w h HM.out HS.out HP.out).mono ?_
  rintro e w' ⟨⟨b, rfl, hb⟩, rfl⟩
  by_cases hb' : b = true
  case neg =>
    obtain rfl : b = false := by simpa using hb'
    go_wp2_with fail
    go_ret
    exact ⟨rfl, Below.refl _ _⟩
  subst hb'
  have s0 : n ≤ 1048576 := (hb rfl).1
  have HN : Hid (∀ i, i < n → (N i).size ≤ 1048576) := (hb rfl).2
  clear hb HS
  by_cases t0 : p.size ≤ 1048576
  case neg =>
    go_wp2_with fail
    go_ret
    exact ⟨rfl, Below.refl _ _⟩
  by_cases t1 : n ≤ 65536
  case neg =>
    go_wp2_with fail
    go_ret
    exact ⟨rfl, Below.refl _ _⟩
  go_wp2_with fail
  refine (sizeOK_any a n c p N w' h t1 HN t0).mono ?_
  rintro e w ⟨⟨b, rfl, _⟩, rfl⟩
  by_cases hb' : b = true
  case neg =>
    obtain rfl : b = false := by simpa using hb'
    go_wp2_with fail
    go_ret
    exact ⟨rfl, Below.refl _ _⟩
  subst hb'
  by_cases g1 : x < 0
  · go_wp2_with fail
    go_ret
    exact ⟨rfl, Below.refl _ _⟩
  by_cases g2 : (n : Int) < x
  · go_wp2_with fail
    go_ret
    exact ⟨rfl, Below.refl _ _⟩
  obtain ⟨i, rfl⟩ : ∃ i : Nat, x = (i : Int) := ⟨x.toNat, by omega⟩
  have hin : i ≤ n := by omega
  cases a with
  | none =>
    obtain ⟨rfl, rfl⟩ := hnil.out rfl
    obtain rfl : i = 0 := by omega
    have hR0 : ReadsS w none 0 N := fun h => by omega
    have hB0 := Below.refl w.heap.size w
    clear hi hz0 hz1 hz2 hnil HN h
    go_wp2_with fail
    refine (split_any none 0 0 N p w hR0 (by omega)).mono ?_
    rintro e w3 ⟨g1', g2', rfl, hB3, hK3, hX3⟩
    have hR3 := ReadsS.below hR0 hB3
    have hB03 := hB0.trans (hB3.mono hB0.size)
    clear hB3 q hB0 hR0
    go_wp2_with fail
    refine (grants_any _ 0 0 N p w3 hR3 (by omega)).mono ?_
    rintro e w4 ⟨rfl, hB4⟩
    obtain ⟨bW, hbW⟩ : ∃ b, b = anyK (fun j => hit p (N j)) 0 := ⟨_, rfl⟩
    rw [← hbW]
    have HW : Hid (bW = anyK (fun j => hit p (N j)) 0) := hbW
    have hR4 := hR3.below hB4
    have hK4 := hK3.below hB4
    have hX4 := hX3.below hB4
    have hB04 := hB03.trans (hB4.mono hB03.size)
    have hl := keptK_len N p 0
    clear hbW hB4 hR3 hK3 hX3 hB03
    go_wp2_with fail
    refine (grants_any _ _ _ (fun j => (keptK N p 0).getD j ByteArray.empty) p w4 hK4.reads (by omega)).mono ?_
    rintro e w5 ⟨rfl, hB5⟩
    rw [kept_any N p 0 ByteArray.empty, ← HW.out]
    have hR5 := hR4.below hB5
    have hX5 := hX4.below hB5
    have hB05 := hB04.trans (hB5.mono hB04.size)
    clear hB5 hR4 hK4 hX4 hB04 HW
    go_wp2_with fail
    refine (grants_any _ _ _ (fun j => (restK N p 0).getD j ByteArray.empty) p w5 hX5.reads (by omega)).mono ?_
    rintro e w6 ⟨rfl, hB6⟩
    rw [rest_any N p 0 ByteArray.empty]
    have hR6 := hR5.below hB6
    have hB06 := hB05.trans (hB6.mono hB05.size)
    clear hB6 hR5 hX5 hB05 hl
    go_wp2_with fail
    refine (insert_any _ 0 _ 0 N ⟨#[42]⟩ w6 hR6 (by omega) hin).mono ?_
    rintro e w7 ⟨rfl, hB7, hV7⟩
    have hB07 := hB06.trans (hB7.mono hB06.size)
    clear hR6 hB7 hB06
    go_wp2_with fail
    refine (grants_any _ 1 1 (ins N 0 ⟨#[42]⟩) p w7 hV7.reads (by omega)).mono ?_
    rintro e w8 ⟨rfl, hB8⟩
    have hB08 := hB07.trans (hB8.mono hB07.size)
    rw [anyK_of (i := 0) (n := 1) (by omega) (by rw [ins_at]; exact hit_star p _ (by simp [ByteArray.toList_eq]))]
    clear hV7 hB8 hB07
    cases bW with
    | true =>
      go_wp2_with fail
      go_ret
      exact ⟨rfl, hB08⟩
    | false =>
      go_wp2_with fail
      go_ret
      exact ⟨rfl, hB08⟩
  | some y =>
    clear hnil
    go_wp2_with (at_make; refine wpList_make_full _ rfl _ _ 22 rfl w.heap.size 9 i0 (.string ByteArray.empty) 1 Try.underlying22 hi hz0 hz1 _ _ _ _ n rfl rfl rfl rfl ?b1 ?b2 ?b3 ?_)
    case b1 => first | omega | (rw [hz2]; omega)
    case b2 => unfold maxLen; omega
    case b3 => exact Nat.le_refl _
    intro w1 hown hgrow
    clear hi hz0 hz1 hz2
    have hB1 : Below w.heap.size w w1 := (Below.refl _ _).grown hgrow (Nat.le_refl _) (fun k h => by cases h)
    obtain ⟨cur, hcur, hlen⟩ : ∃ cur : List Value, w1.heap[w.heap.size]? = some (.cells cur.toArray 9 (0, 0)) ∧ cur.length = n := by
      rcases hown.2 with ⟨h0, _⟩ | ⟨g, cp, cur, hv, _, hg, _, _, hcs, _⟩
      · cases h0
      · simp only [Value.slice.injEq, Option.some.injEq, Addr.mk.injEq, and_true, true_and] at hv
        obtain ⟨rfl, rfl⟩ := hv
        exact ⟨cur.toList, by simpa using hg, by simpa using hcs⟩
    have HC : Hid (w1.heap[w.heap.size]? = some (.cells cur.toArray 9 (0, 0))) := hcur
    have HL : Hid (cur.length = n) := hlen
    have h1 := h.below hB1
    clear hown hgrow hcur hlen
    go_wp2_with (refine wpList_copy_splice rfl _ _ 22 22 rfl 9 Try.underlying22 Try.size9 (some ⟨w.heap.size, 0, none⟩) (some y) n n n c rfl rfl w.heap.size 0 cur 9 HC.out (cellsL N n) ?c1 ?c2 ?c3 ?c4 w.heap.size w hB1 (Nat.le_refl _) ?_)
    case c1 => rw [cellsL_len]; exact (Nat.min_self n).symm
    case c2 => exact copy_from h1
    case c3 => rw [cellsL_len, HL.out]; omega
    case c4 => exact cellsL_one
    intro w2 hw2 hB2
    have hV := VRow.ofHeap hw2.out (splice_cells (N := N) (n := n) cur)
    clear hw2 HC HL h1 hB1
    go_wp2_with fail
    refine (split_any (some ⟨w.heap.size, 0, none⟩) n n N p w2 hV.reads (by omega)).mono ?_
    rintro e w3 ⟨g1', g2', rfl, hB3, hK3, hX3⟩
    have hR3 := ReadsS.below hV.reads hB3
    have hB03 := hB2.trans (hB3.mono hB2.size)
    clear hB3 q hB2 hV h
    go_wp2_with fail
    refine (grants_any _ n n N p w3 hR3 (by omega)).mono ?_
    rintro e w4 ⟨rfl, hB4⟩
    obtain ⟨bW, hbW⟩ : ∃ b, b = anyK (fun j => hit p (N j)) n := ⟨_, rfl⟩
    rw [← hbW]
    have HW : Hid (bW = anyK (fun j => hit p (N j)) n) := hbW
    have hR4 := hR3.below hB4
    have hK4 := hK3.below hB4
    have hX4 := hX3.below hB4
    have hB04 := hB03.trans (hB4.mono hB03.size)
    have hl := keptK_len N p n
    clear hbW hB4 hR3 hK3 hX3 hB03
    go_wp2_with fail
    refine (grants_any _ _ _ (fun j => (keptK N p n).getD j ByteArray.empty) p w4 hK4.reads (by omega)).mono ?_
    rintro e w5 ⟨rfl, hB5⟩
    rw [kept_any N p n ByteArray.empty, ← HW.out]
    have hR5 := hR4.below hB5
    have hX5 := hX4.below hB5
    have hB05 := hB04.trans (hB5.mono hB04.size)
    clear hB5 hR4 hK4 hX4 hB04 HW
    go_wp2_with fail
    refine (grants_any _ _ _ (fun j => (restK N p n).getD j ByteArray.empty) p w5 hX5.reads (by omega)).mono ?_
    rintro e w6 ⟨rfl, hB6⟩
    rw [rest_any N p n ByteArray.empty]
    have hR6 := hR5.below hB6
    have hB06 := hB05.trans (hB6.mono hB05.size)
    clear hB6 hR5 hX5 hB05 hl
    go_wp2_with fail
    refine (insert_any _ n _ i N ⟨#[42]⟩ w6 hR6 (by omega) hin).mono ?_
    rintro e w7 ⟨rfl, hB7, hV7⟩
    have hB07 := hB06.trans (hB7.mono hB06.size)
    clear hR6 hB7 hB06
    go_wp2_with fail
    refine (grants_any _ (n + 1) (n + 1) (ins N i ⟨#[42]⟩) p w7 hV7.reads (by omega)).mono ?_
    rintro e w8 ⟨rfl, hB8⟩
    have hB08 := hB07.trans (hB8.mono hB07.size)
    rw [anyK_of (i := i) (n := n + 1) (by omega) (by rw [ins_at]; exact hit_star p _ (by simp [ByteArray.toList_eq]))]
    clear hV7 hB8 hB07
    cases bW with
    | true =>
      go_wp2_with fail
      go_ret
      exact ⟨rfl, hB08⟩
    | false =>
      go_wp2_with fail
      go_ret
      exact ⟨rfl, hB08⟩
end Go.Proofs.Qxb6617608a
