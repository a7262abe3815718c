/-
  The walk of FnSortByNameMergesSortedParts.
-/
import Derived.Test.Qxb6616369aAlike
import Derived.Test.Qxb6616369aMerge
namespace Go.Proofs.Qxb6616369a
open Go.RowKit Plain

set_option maxHeartbeats 3200000 in
set_option maxRecDepth 100000 in
theorem parts_walk (a b : Option Addr) (n c m d : Nat) (A B : List NV) (w : World) (hA : RP w a A) (hAn : Hid (A.length = n)) (hB : RP w b B) (hBm : Hid (B.length = m)) (hm : n ≤ maxLen) (hm' : m ≤ maxLen)
    (hna : Hid (a = none → n = 0 ∧ c = 0)) (hnb : Hid (b = none → m = 0 ∧ d = 0))
    (hs : ∀ i, i < n → (nm A i).size ≤ maxLen ∧ (vl A i).size ≤ maxLen) (hs' : ∀ i, i < m → (nm B i).size ≤ maxLen ∧ (vl B i).size ≤ maxLen) :
    Calls Try.prog 4 #[.slice a n c, .slice b m d] w fun e w' => e = .returned (.bool true) ∧ Below w.heap.size w w' := by
  have HS : Hid (∀ i, i < n → (nm A i).size ≤ maxLen ∧ (vl A i).size ≤ maxLen) := hs
  have HS' : Hid (∀ i, i < m → (nm B i).size ≤ maxLen ∧ (vl B i).size ≤ maxLen) := hs'
  clear hs hs'
  have HM : Hid (n ≤ maxLen) := hm
  have HM' : Hid (m ≤ maxLen) := hm'
  unfold maxLen at hm hm'
  go_enter Try.func4, Try.ntmps4
  go_wp2_with fail
  refine (bytes2_any a b n c m d A B w hA hAn hB hBm HM.out HM'.out HS.out HS'.out).mono ?_
  rintro e w' ⟨⟨x, rfl, hx⟩, rfl⟩
  by_cases hx' : x = true
  case neg =>
    obtain rfl : x = false := by simpa using hx'
    go_wp2
    go_ret
    exact ⟨rfl, Below.refl _ _⟩
  subst hx'
  have s0 : n ≤ 1048576 := (hx rfl).1.1
  have s1 : m ≤ 1048576 := (hx rfl).2.1
  have HN : Hid (∀ i, i < n → (nm A i).size ≤ 1048576 ∧ (vl A i).size ≤ 1048576) := (hx rfl).1.2
  have HN' : Hid (∀ i, i < m → (nm B i).size ≤ 1048576 ∧ (vl B i).size ≤ 1048576) := (hx rfl).2.2
  clear hx HS HS'
  by_cases t0 : n ≤ 4096
  case neg =>
    go_wp2
    go_ret
    exact ⟨rfl, Below.refl _ _⟩
  by_cases t0' : m ≤ 4096
  case neg =>
    go_wp2
    go_ret
    exact ⟨rfl, Below.refl _ _⟩
  go_wp2_with fail
  refine (nvBytes_any a b n c m d A B w' hA hAn hB hBm t0 t0' HN HN').mono ?_
  rintro e w1 ⟨⟨z, rfl, _⟩, hB1⟩
  by_cases t1 : z ≤ 1048576
  case neg =>
    go_wp2
    go_ret
    exact ⟨rfl, hB1⟩
  obtain ⟨i0, hi0, hz0, hz1, hz2⟩ := info_parts Try.info46
  go_wp2_with (at_make; refine wpList_make_own _ rfl _ _ 22 rfl w1.heap.size 46 i0 _ 2 Try.underlying22 hi0 hz0 hz1 _ _ _ (n + m) rfl rfl ?b0 ?b1 ?b2 ?b3 ?_)
  case b0 => go_num
  case b1 => rw [hz2]; omega
  case b2 => unfold maxLen; omega
  case b3 => exact Nat.le_refl _
  intro w2 hown hgrow
  clear hi0 hz0 hz1 hz2
  have hB2 : Below w1.heap.size w1 w2 := (Below.refl _ _).grown hgrow (Nat.le_refl _) (fun k h => by cases h)
  have hB02 : Below w'.heap.size w' w2 := hB1.trans (hB2.mono hB1.size)
  have hown1 : w2.ownsRow w1.heap.size 46 2 (.slice (some ⟨w1.heap.size, 0, none⟩) 0 (n + m)) 0 (cellsP []) := hown
  have hle := hB1.size
  obtain ⟨g, hg⟩ : ∃ g, g = w1.heap.size := ⟨_, rfl⟩
  rw [← hg] at hown1 hle ⊢
  have hlt2 : g < w2.heap.size := by have := hown1.lt _ rfl; omega
  clear hown hgrow hB1 hB2 hg
  go_wp2_with (at_builtin; refine wpList_appendP _ rfl _ _ 22 rfl g 46 Try.underlying22 Try.info46 g 0 (n + m) [] rfl hown1 a n c A rfl hAn (hA.below hB02) hna.out ?r2 ?_)
  case r2 => omega
  intro w3 hown3 hgrow3
  have hB03 : Below w'.heap.size w' w3 := hB02.grown hgrow3 hB02.size (fun k h => by cases h; exact hle)
  have hown3' : w3.ownsRow g 46 2 (.slice (some ⟨g, 0, none⟩) n (n + m)) n (cellsP A) := by simpa using hown3
  clear hown3 hgrow3 hown1 hB02 hlt2
  go_wp2_with (at_builtin; refine wpList_appendP _ rfl _ _ 22 rfl g 46 Try.underlying22 Try.info46 g n (n + m) A rfl hown3' b m d B rfl hBm (hB.below hB03) hnb.out ?r3 ?_)
  case r3 => omega
  intro w4 hown4 hgrow4
  have hB04 : Below w'.heap.size w' w4 := hB03.grown hgrow4 hB03.size (fun k h => by cases h; exact hle)
  have hlt4 : g < w4.heap.size := by have := hown4.lt _ rfl; omega
  obtain ⟨C, hC⟩ : ∃ C, C = A ++ B := ⟨_, rfl⟩
  rw [← hC] at hown4
  have HC : Hid (C = A ++ B) := hC
  have HCn : Hid (C.length = n + m) := show _ = _ by rw [hC, List.length_append, hAn.out, hBm.out]
  have hC4 := PR.ofOwns hown4 HCn hlt4
  clear hown4 hgrow4 hown3' hB03 hC hlt4
  have sk : n + m ≤ 1048576 := by omega
  go_wp2_with fail
  refine (model_any (some ⟨g, 0, none⟩) (n + m) (n + m) C w4 hC4.reads HCn sk).mono ?_
  rintro e w5 ⟨rfl, hB5, Lw, hW5, hWp, hWs, hWn⟩
  have HP : Hid (Lw.Perm C) := hWp
  have HSd : Hid (SortedL Lw) := hWs
  have HWn : Hid (Lw.length = n + m) := hWn
  clear hWp hWs hWn
  have hB05 : Below w'.heap.size w' w5 := hB04.trans (hB5.mono hB04.size)
  have hC5 := hC4.below hB5
  obtain ⟨gw, hgw⟩ : ∃ gw, gw = w4.heap.size := ⟨_, rfl⟩
  rw [← hgw] at hW5 ⊢
  clear hB04 hB5 hC4 hgw
  go_wp2_with fail
  refine (hasDup_any (some ⟨gw, 0, none⟩) (n + m) (n + m) Lw w5 hW5.reads HWn sk).mono ?_
  rintro e w6 ⟨⟨x, rfl, hx⟩, hB6⟩
  have hB06 : Below w'.heap.size w' w6 := hB05.trans (hB6.mono hB05.size)
  have hW6 := hW5.below hB6
  have hC6 := hC5.below hB6
  clear hB6 hB05 hW5 hC5
  by_cases hx' : x = true
  case pos =>
    subst hx'
    clear hx
    go_wp2
    go_ret
    exact ⟨rfl, hB06⟩
  obtain rfl : x = false := by simpa using hx'
  have HStr : Hid (StrictL Lw) := strict_nodup HSd.out HWn.out hx
  clear hx hx' HSd
  go_wp2_with fail
  refine (namesOf_any a n c A w6 (hA.below hB06) hAn s0).mono ?_
  rintro e w7 ⟨rfl, hB7, hNa7⟩
  have hB07 : Below w'.heap.size w' w7 := hB06.trans (hB7.mono hB06.size)
  have hW7 := hW6.below hB7
  have hC7 := hC6.below hB7
  obtain ⟨gna, hgna⟩ : ∃ gna, gna = w6.heap.size := ⟨_, rfl⟩
  rw [← hgna] at hNa7 ⊢
  clear hB7 hB06 hW6 hC6 hgna
  go_wp2_with fail
  refine (valuesOf_any a n c A w7 (hA.below hB07) hAn s0).mono ?_
  rintro e w8 ⟨rfl, hB8, hVa8⟩
  have hB08 : Below w'.heap.size w' w8 := hB07.trans (hB8.mono hB07.size)
  have hW8 := hW7.below hB8
  have hC8 := hC7.below hB8
  have hNa8 := hNa7.below hB8
  obtain ⟨gva, hgva⟩ : ∃ gva, gva = w7.heap.size := ⟨_, rfl⟩
  rw [← hgva] at hVa8 ⊢
  clear hB8 hB07 hW7 hC7 hNa7 hgva
  go_wp2_with fail
  refine (zzsort_any gna gva n A w8 hNa8 hVa8 hAn s0).mono ?_
  rintro e w9 ⟨g1, g2, L1, rfl, p1, q1, l1, hN19, hV19, hB9⟩
  have HP1 : Hid (L1.Perm A) := p1
  have HS1 : Hid (SortedL L1) := q1
  have HL1 : Hid (L1.length = n) := l1
  clear p1 q1 l1
  have hB09 : Below w'.heap.size w' w9 := hB08.trans (hB9.mono hB08.size)
  have hW9 := hW8.below hB9
  have hC9 := hC8.below hB9
  have hNa9 := hNa8.below hB9
  have hVa9 := hVa8.below hB9
  clear hB9 hB08 hW8 hC8 hNa8 hVa8
  clear hNa9 hVa9
  go_wp2_with fail
  refine (namesOf_any b m d B w9 (hB.below hB09) hBm s1).mono ?_
  rintro e wa ⟨rfl, hBa, hNba⟩
  have hB0a : Below w'.heap.size w' wa := hB09.trans (hBa.mono hB09.size)
  have hWa := hW9.below hBa
  have hCa := hC9.below hBa
  have hN1a := hN19.below hBa
  have hV1a := hV19.below hBa
  obtain ⟨gnb, hgnb⟩ : ∃ gnb, gnb = w9.heap.size := ⟨_, rfl⟩
  rw [← hgnb] at hNba ⊢
  clear hBa hB09 hW9 hC9 hN19 hV19 hgnb
  go_wp2_with fail
  refine (valuesOf_any b m d B wa (hB.below hB0a) hBm s1).mono ?_
  rintro e wb ⟨rfl, hBb, hVbb⟩
  have hB0b : Below w'.heap.size w' wb := hB0a.trans (hBb.mono hB0a.size)
  have hWb := hWa.below hBb
  have hCb := hCa.below hBb
  have hN1b := hN1a.below hBb
  have hV1b := hV1a.below hBb
  have hNbb := hNba.below hBb
  obtain ⟨gvb, hgvb⟩ : ∃ gvb, gvb = wa.heap.size := ⟨_, rfl⟩
  rw [← hgvb] at hVbb ⊢
  clear hBb hB0a hWa hCa hN1a hV1a hNba hgvb
  go_wp2_with fail
  refine (zzsort_any gnb gvb m B wb hNbb hVbb hBm s1).mono ?_
  rintro e wc ⟨g3, g4, L2, rfl, p2, q2, l2, hN2c, hV2c, hBc⟩
  have HP2 : Hid (L2.Perm B) := p2
  have HS2 : Hid (SortedL L2) := q2
  have HL2 : Hid (L2.length = m) := l2
  clear p2 q2 l2
  have hB0c : Below w'.heap.size w' wc := hB0b.trans (hBc.mono hB0b.size)
  have hWc := hWb.below hBc
  have hCc := hCb.below hBc
  have hN1c := hN1b.below hBc
  have hV1c := hV1b.below hBc
  have hNbc := hNbb.below hBc
  have hVbc := hVbb.below hBc
  clear hBc hB0b hWb hCb hN1b hV1b hNbb hVbb
  clear hNbc hVbc
  go_wp2_with fail
  refine (namesOf_any (some ⟨g, 0, none⟩) (n + m) (n + m) C wc hCc.reads HCn sk).mono ?_
  rintro e wd ⟨rfl, hBd, hNcd⟩
  have hB0d : Below w'.heap.size w' wd := hB0c.trans (hBd.mono hB0c.size)
  have hWd := hWc.below hBd
  have hCd := hCc.below hBd
  have hN1d := hN1c.below hBd
  have hV1d := hV1c.below hBd
  have hN2d := hN2c.below hBd
  have hV2d := hV2c.below hBd
  obtain ⟨gnc, hgnc⟩ : ∃ gnc, gnc = wc.heap.size := ⟨_, rfl⟩
  rw [← hgnc] at hNcd ⊢
  clear hBd hB0c hWc hCc hN1c hV1c hN2c hV2c hgnc
  go_wp2_with fail
  refine (valuesOf_any (some ⟨g, 0, none⟩) (n + m) (n + m) C wd hCd.reads HCn sk).mono ?_
  rintro e we ⟨rfl, hBe, hVce⟩
  have hB0e : Below w'.heap.size w' we := hB0d.trans (hBe.mono hB0d.size)
  have hWe := hWd.below hBe
  have hCe := hCd.below hBe
  have hN1e := hN1d.below hBe
  have hV1e := hV1d.below hBe
  have hN2e := hN2d.below hBe
  have hV2e := hV2d.below hBe
  have hNce := hNcd.below hBe
  obtain ⟨gvc, hgvc⟩ : ∃ gvc, gvc = wd.heap.size := ⟨_, rfl⟩
  rw [← hgvc] at hVce ⊢
  clear hBe hB0d hWd hCd hN1d hV1d hN2d hV2d hNcd hgvc
  go_wp2_with fail
  refine (zzsort_any gnc gvc (n + m) C we hNce hVce HCn sk).mono ?_
  rintro e wf ⟨g5, g6, L3, rfl, p3, q3, l3, hN3f, hV3f, hBf⟩
  have e3 := (unique (HP.out.trans p3.symm) HStr.out q3).symm
  subst e3
  have e4 : L3 = L1.merge L2 leN := unique (HP.out.trans (by rw [HC.out]; exact ((merge_perm L1 L2).trans (HP1.out.append HP2.out)).symm)) HStr.out (merge_sorted HS1.out HS2.out)
  have HE : Hid (L3 = L1.merge L2 leN) := e4
  clear p3 q3 l3 e4
  have hB0f : Below w'.heap.size w' wf := hB0e.trans (hBf.mono hB0e.size)
  have hWf := hWe.below hBf
  have hCf := hCe.below hBf
  have hN1f := hN1e.below hBf
  have hV1f := hV1e.below hBf
  have hN2f := hN2e.below hBf
  have hV2f := hV2e.below hBf
  have hNcf := hNce.below hBf
  have hVcf := hVce.below hBf
  clear hBf hB0e hWe hCe hN1e hV1e hN2e hV2e hNce hVce
  clear hNcf hVcf hCf HP1 HP2 HS1 HS2
  go_wp2_with fail
  refine (zip_any g1 g2 n L1 wf hN1f hV1f HL1 s0).mono ?_
  rintro e wg ⟨rfl, hBg, hZ1g⟩
  have hB0g : Below w'.heap.size w' wg := hB0f.trans (hBg.mono hB0f.size)
  have hWg := hWf.below hBg
  have hN1g := hN1f.below hBg
  have hV1g := hV1f.below hBg
  have hN2g := hN2f.below hBg
  have hV2g := hV2f.below hBg
  have hN3g := hN3f.below hBg
  have hV3g := hV3f.below hBg
  obtain ⟨gz1, hgz1⟩ : ∃ gz1, gz1 = wf.heap.size := ⟨_, rfl⟩
  rw [← hgz1] at hZ1g ⊢
  clear hBg hB0f hWf hN1f hV1f hN2f hV2f hN3f hV3f hgz1
  clear hN1g hV1g
  go_wp2_with fail
  refine (zip_any g3 g4 m L2 wg hN2g hV2g HL2 s1).mono ?_
  rintro e wh ⟨rfl, hBh, hZ2h⟩
  have hB0h : Below w'.heap.size w' wh := hB0g.trans (hBh.mono hB0g.size)
  have hWh := hWg.below hBh
  have hN2h := hN2g.below hBh
  have hV2h := hV2g.below hBh
  have hN3h := hN3g.below hBh
  have hV3h := hV3g.below hBh
  have hZ1h := hZ1g.below hBh
  obtain ⟨gz2, hgz2⟩ : ∃ gz2, gz2 = wg.heap.size := ⟨_, rfl⟩
  rw [← hgz2] at hZ2h ⊢
  clear hBh hB0g hWg hN2g hV2g hN3g hV3g hZ1g hgz2
  clear hN2h hV2h
  go_wp2_with fail
  refine (zip_any g5 g6 (n + m) L3 wh hN3h hV3h HWn sk).mono ?_
  rintro e wi ⟨rfl, hBi, hZ3i⟩
  have hB0i : Below w'.heap.size w' wi := hB0h.trans (hBi.mono hB0h.size)
  have hWi := hWh.below hBi
  have hN3i := hN3h.below hBi
  have hV3i := hV3h.below hBi
  have hZ1i := hZ1h.below hBi
  have hZ2i := hZ2h.below hBi
  obtain ⟨gz3, hgz3⟩ : ∃ gz3, gz3 = wh.heap.size := ⟨_, rfl⟩
  rw [← hgz3] at hZ3i ⊢
  clear hBi hB0h hWh hN3h hV3h hZ1h hZ2h hgz3
  clear hN3i hV3i
  go_wp2_with fail
  refine (equal_any (some ⟨gz3, 0, none⟩) (some ⟨gw, 0, none⟩) (n + m) (n + m) (n + m) L3 wi hZ3i.reads hWi.reads HWn sk).mono ?_
  rintro e wj ⟨rfl, hBj⟩
  have hB0j : Below w'.heap.size w' wj := hB0i.trans (hBj.mono hB0i.size)
  have hWj := hWi.below hBj
  have hZ1j := hZ1i.below hBj
  have hZ2j := hZ2i.below hBj
  have hZ3j := hZ3i.below hBj
  clear hBj hB0i hWi hZ1i hZ2i hZ3i
  clear hZ3j
  go_wp2_with fail
  refine (merge_any (some ⟨gz1, 0, none⟩) (some ⟨gz2, 0, none⟩) n n m m L1 L2 wj hZ1j.reads HL1 hZ2j.reads HL2 t0 t0').mono ?_
  rintro e wk ⟨⟨rfl, hRk⟩, hBk⟩
  have hB0k : Below w'.heap.size w' wk := hB0j.trans (hBk.mono hB0j.size)
  have hWk := hWj.below hBk
  have hZ1k := hZ1j.below hBk
  have hZ2k := hZ2j.below hBk
  obtain ⟨gm, hgm⟩ : ∃ gm, gm = wj.heap.size := ⟨_, rfl⟩
  rw [← hgm] at hRk ⊢
  clear hBk hB0j hWj hZ1j hZ2j hgm
  clear hZ1k hZ2k
  rw [← HE.out] at hRk
  go_wp2_with fail
  refine (equal_any (some ⟨gm, 0, none⟩) (some ⟨gw, 0, none⟩) (n + m) (n + m) (n + m) L3 wk hRk hWk.reads HWn sk).mono ?_
  rintro e wl ⟨rfl, hBl⟩
  have hB0l : Below w'.heap.size w' wl := hB0k.trans (hBl.mono hB0k.size)
  have hWl := hWk.below hBl
  have hRl := hRk.below hBl
  clear hBl hB0k hWk hRk
  clear hWl hRl
  go_wp2
  go_ret
  exact ⟨rfl, hB0l⟩
end Go.Proofs.Qxb6616369a
