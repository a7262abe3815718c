/-
  The walk of FnSortByNameSortsEveryOrderAlike.
-/
import Derived.Test.Qxb6616369aModel
import Derived.Test.Qxb6616369aSort
namespace Go.Proofs.Qxb6616369a
open Go.RowKit Plain

theorem RP.nil (w : World) (a : Option Addr) : RP w a [] := fun h => by simp at h
theorem strict_nodup {L : List NV} {n : Nat} (hs : SortedL L) (hL : L.length = n) (hd : NoDup L n false) : StrictL L := strict_of hs (fun i hi => hd rfl i (by omega))

set_option maxHeartbeats 3200000 in
set_option maxRecDepth 100000 in
theorem alike_walk (a : Option Addr) (n c : Nat) (L : List NV) (w : World) (h : RP w a L) (hL : Hid (L.length = n)) (hm : n ≤ maxLen) (hs : ∀ i, i < n → (nm L i).size ≤ maxLen ∧ (vl L i).size ≤ maxLen) :
    Calls Try.prog 3 #[.slice a n c] w fun e w' => e = .returned (.bool true) ∧ Below w.heap.size w w' := by
  have HS : Hid (∀ i, i < n → (nm L i).size ≤ maxLen ∧ (vl L i).size ≤ maxLen) := hs
  clear hs
  have HM : Hid (n ≤ maxLen) := hm
  unfold maxLen at hm
  go_enter Try.func3, Try.ntmps3
  go_wp2_with fail
  refine (bytes1_any a n c L w h hL HM.out HS.out).mono ?_
  rintro e w' ⟨⟨b, rfl, hb⟩, rfl⟩
  by_cases hb' : b = true
  case neg =>
    obtain rfl : b = false := by simpa using hb'
    go_wp2
    go_ret
    exact ⟨rfl, Below.refl _ _⟩
  subst hb'
  have s0 : n ≤ 1048576 := (hb rfl).1
  have HN : Hid (∀ i, i < n → (nm L i).size ≤ 1048576 ∧ (vl L i).size ≤ 1048576) := (hb rfl).2
  clear hb HS
  by_cases t0 : n ≤ 4096
  case neg =>
    go_wp2
    go_ret
    exact ⟨rfl, Below.refl _ _⟩
  go_wp2_with fail
  refine (nvBytes_any a none n c 0 0 L [] w' h hL (RP.nil _ _) (show _ = _ from rfl) t0 (Nat.zero_le _) HN (fun i h => by omega)).mono ?_
  rintro e w1 ⟨⟨m, rfl, _⟩, hB1⟩
  by_cases t1 : m ≤ 1048576
  case neg =>
    go_wp2
    go_ret
    exact ⟨rfl, hB1⟩
  go_wp2_with fail
  refine (model_any a n c L w1 (h.below hB1) hL s0).mono ?_
  rintro e w2 ⟨rfl, hB2, Lw, hW2, hWp, hWs, hWn⟩
  have HP : Hid (Lw.Perm L) := hWp
  have HSd : Hid (SortedL Lw) := hWs
  have HWn : Hid (Lw.length = n) := hWn
  clear hWp hWs hWn
  have hB02 : Below w'.heap.size w' w2 := hB1.trans (hB2.mono hB1.size)
  obtain ⟨gw, hgw⟩ : ∃ gw, gw = w1.heap.size := ⟨_, rfl⟩
  rw [← hgw] at hW2 ⊢
  clear hB1 hB2 hgw
  go_wp2_with fail
  refine (hasDup_any (some ⟨gw, 0, none⟩) n n Lw w2 hW2.reads HWn s0).mono ?_
  rintro e w3 ⟨⟨b, rfl, hb⟩, hB3⟩
  have hB03 : Below w'.heap.size w' w3 := hB02.trans (hB3.mono hB02.size)
  have hW3 := hW2.below hB3
  clear hB3 hB02 hW2
  by_cases hb' : b = true
  case pos =>
    subst hb'
    clear hb
    go_wp2
    go_ret
    exact ⟨rfl, hB03⟩
  obtain rfl : b = false := by simpa using hb'
  have HStr : Hid (StrictL Lw) := strict_nodup HSd.out HWn.out hb
  clear hb hb' HSd
  go_wp2_with fail
  refine (namesOf_any a n c L w3 (h.below hB03) hL s0).mono ?_
  rintro e w4 ⟨rfl, hB4, hN4⟩
  have hB04 : Below w'.heap.size w' w4 := hB03.trans (hB4.mono hB03.size)
  have hW4 := hW3.below hB4
  obtain ⟨gn, hgn⟩ : ∃ gn, gn = w3.heap.size := ⟨_, rfl⟩
  rw [← hgn] at hN4 ⊢
  clear hB4 hB03 hW3 hgn
  go_wp2_with fail
  refine (valuesOf_any a n c L w4 (h.below hB04) hL s0).mono ?_
  rintro e w5 ⟨rfl, hB5, hV5⟩
  have hB05 : Below w'.heap.size w' w5 := hB04.trans (hB5.mono hB04.size)
  have hW5 := hW4.below hB5
  have hN5 := hN4.below hB5
  obtain ⟨gv, hgv⟩ : ∃ gv, gv = w4.heap.size := ⟨_, rfl⟩
  rw [← hgv] at hV5 ⊢
  clear hB5 hB04 hW4 hN4 hgv
  go_wp2_with fail
  refine (zzsort_any gn gv n L w5 hN5 hV5 hL s0).mono ?_
  rintro e w6 ⟨g1, g2, L1, rfl, p1, q1, l1, hN6, hV6, hB6⟩
  have HL1 : Hid (L1 = Lw) := (unique (HP.out.trans p1.symm) HStr.out q1).symm
  have e1 := HL1.out
  subst e1
  clear HL1 p1 q1 l1
  have hB06 : Below w'.heap.size w' w6 := hB05.trans (hB6.mono hB05.size)
  have hW6 := hW5.below hB6
  clear hB6 hB05 hW5 hN5 hV5
  go_wp2_with fail
  refine (reverse_any a n c L w6 (h.below hB06) hL s0).mono ?_
  rintro e w7 ⟨rfl, hB7, hR7⟩
  have hB07 : Below w'.heap.size w' w7 := hB06.trans (hB7.mono hB06.size)
  have hW7 := hW6.below hB7
  have hN7 := hN6.below hB7
  have hV7 := hV6.below hB7
  obtain ⟨gr, hgr⟩ : ∃ gr, gr = w6.heap.size := ⟨_, rfl⟩
  rw [← hgr] at hR7 ⊢
  obtain ⟨Lr, hLr⟩ : ∃ Lr, Lr = L.reverse := ⟨_, rfl⟩
  rw [← hLr] at hR7
  have HLr : Hid (Lr = L.reverse) := hLr
  have HRn : Hid (Lr.length = n) := show _ = _ by rw [hLr, List.length_reverse, hL.out]
  clear hB7 hB06 hW6 hN6 hV6 hgr hLr
  go_wp2_with fail
  refine (namesOf_any (some ⟨gr, 0, none⟩) n n Lr w7 hR7.reads HRn s0).mono ?_
  rintro e w8 ⟨rfl, hB8, hNr8⟩
  have hB08 : Below w'.heap.size w' w8 := hB07.trans (hB8.mono hB07.size)
  have hW8 := hW7.below hB8
  have hN8 := hN7.below hB8
  have hV8 := hV7.below hB8
  have hR8 := hR7.below hB8
  obtain ⟨gn2, hgn2⟩ : ∃ gn2, gn2 = w7.heap.size := ⟨_, rfl⟩
  rw [← hgn2] at hNr8 ⊢
  clear hB8 hB07 hW7 hN7 hV7 hR7 hgn2
  go_wp2_with fail
  refine (valuesOf_any (some ⟨gr, 0, none⟩) n n Lr w8 hR8.reads HRn s0).mono ?_
  rintro e w9 ⟨rfl, hB9, hVr9⟩
  have hB09 : Below w'.heap.size w' w9 := hB08.trans (hB9.mono hB08.size)
  have hW9 := hW8.below hB9
  have hN9 := hN8.below hB9
  have hV9 := hV8.below hB9
  have hNr9 := hNr8.below hB9
  obtain ⟨gv2, hgv2⟩ : ∃ gv2, gv2 = w8.heap.size := ⟨_, rfl⟩
  rw [← hgv2] at hVr9 ⊢
  clear hB9 hB08 hW8 hN8 hV8 hR8 hNr8 hgv2
  go_wp2_with fail
  refine (zzsort_any gn2 gv2 n Lr w9 hNr9 hVr9 HRn s0).mono ?_
  rintro e wa ⟨g3, g4, L2, rfl, p2, q2, l2, hNa, hVa, hBa⟩
  have e2 := (unique (HP.out.trans (((p2.trans (by rw [HLr.out]; exact List.reverse_perm L)).symm))) HStr.out q2).symm
  subst e2
  clear p2 q2 l2
  have hB0a : Below w'.heap.size w' wa := hB09.trans (hBa.mono hB09.size)
  have hWa := hW9.below hBa
  have hN1a := hN9.below hBa
  have hV1a := hV9.below hBa
  clear hBa hB09 hW9 hN9 hV9 hNr9 hVr9
  go_wp2_with fail
  refine (zip_any g1 g2 n L2 wa hN1a hV1a HWn s0).mono ?_
  rintro e wb ⟨rfl, hBb, hZb⟩
  have hB0b : Below w'.heap.size w' wb := hB0a.trans (hBb.mono hB0a.size)
  have hWb := hWa.below hBb
  have hNb := hNa.below hBb
  have hVb := hVa.below hBb
  obtain ⟨gz, hgz⟩ : ∃ gz, gz = wa.heap.size := ⟨_, rfl⟩
  rw [← hgz] at hZb ⊢
  clear hBb hB0a hWa hNa hVa hN1a hV1a hgz
  go_wp2_with fail
  refine (zip_any g3 g4 n L2 wb hNb hVb HWn s0).mono ?_
  rintro e wc ⟨rfl, hBc, hYc⟩
  have hB0c : Below w'.heap.size w' wc := hB0b.trans (hBc.mono hB0b.size)
  have hWc := hWb.below hBc
  have hZc := hZb.below hBc
  obtain ⟨gy, hgy⟩ : ∃ gy, gy = wb.heap.size := ⟨_, rfl⟩
  rw [← hgy] at hYc ⊢
  clear hBc hB0b hWb hNb hVb hZb hgy
  go_wp2_with fail
  refine (equal_any (some ⟨gz, 0, none⟩) (some ⟨gw, 0, none⟩) n n n L2 wc hZc.reads hWc.reads HWn s0).mono ?_
  rintro e wd ⟨rfl, hBd⟩
  have hB0d : Below w'.heap.size w' wd := hB0c.trans (hBd.mono hB0c.size)
  have hWd := hWc.below hBd
  have hYd := hYc.below hBd
  clear hBd hB0c hWc hZc hYc
  go_wp2_with fail
  refine (equal_any (some ⟨gy, 0, none⟩) (some ⟨gw, 0, none⟩) n n n L2 wd hYd.reads hWd.reads HWn s0).mono ?_
  rintro e we ⟨rfl, hBe⟩
  have hB0e : Below w'.heap.size w' we := hB0d.trans (hBe.mono hB0d.size)
  clear hBe hB0d hWd hYd
  go_wp2
  go_ret
  exact ⟨rfl, hB0e⟩
end Go.Proofs.Qxb6616369a
