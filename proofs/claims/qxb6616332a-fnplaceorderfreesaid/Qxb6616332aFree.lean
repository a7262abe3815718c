/-
  The walk of FnPlaceOrderFree.
-/
import Derived.Test.Qxb6616332aLeaves
import Derived.Deep.QuietTactic
import Derived.BigQuiet
import Derived.Deep.RegionWith
namespace Go.Proofs.Qxb6616332a
open Go.RowKit Plain

set_option maxHeartbeats 1600000 in
set_option maxRecDepth 100000 in
theorem free_walk (a0 a3 a4 : Option Addr) (n0 c0 n3 c3 n4 c4 : Nat) (lo hi : Int) (O U P : Nat → Int) (w : World)
    (h0 : InRow w a0 n0 c0 O) (h3 : InRow w a3 n3 c3 U) (h4 : InRow w a4 n4 c4 P) (m0 : n0 ≤ maxLen) (m3 : n3 ≤ maxLen) (m4 : n4 ≤ maxLen) :
    Calls Try.prog 3 #[.slice a0 n0 c0, .int .i64 lo, .int .i64 hi, .slice a3 n3 c3, .slice a4 n4 c4] w fun e w' => e = .returned (.bool true) ∧ Below w.heap.size w w' := by
  obtain ⟨i0, hi0, hz0, hz1, hz2⟩ := info_parts Try.info4
  unfold maxLen at m0 m3 m4
  go_enter Try.func3, Try.ntmps3
  go_wp2_with fail
  refine (bytes1_any a0 a3 a4 n0 c0 n3 c3 n4 c4 lo hi w m0 m3 m4).mono ?_
  rintro e w' ⟨b, rfl, rfl, hb⟩
  by_cases hb' : b = true
  case neg =>
    obtain rfl : b = false := by simpa using hb'
    go_wp2
    go_ret
    exact ⟨rfl, Below.refl _ _⟩
  subst hb'
  obtain ⟨s0, s3, s4⟩ := hb rfl
  clear hb
  by_cases t0 : n0 ≤ 32768
  case neg =>
    go_wp2
    go_ret
    exact ⟨rfl, Below.refl _ _⟩
  by_cases t3 : n3 ≤ 32768
  case neg =>
    go_wp2
    go_ret
    exact ⟨rfl, Below.refl _ _⟩
  by_cases t4 : n4 ≤ 32768
  case neg =>
    go_wp2
    go_ret
    exact ⟨rfl, Below.refl _ _⟩
  by_cases e34 : n3 = n4
  case neg =>
    go_wp2
    go_ret
    exact ⟨rfl, Below.refl _ _⟩
  subst e34
  go_wp2_with (at_make; refine wpList_make_full _ rfl _ _ 25 rfl w'.heap.size 4 i0 (.bool false) 1 Try.underlying25 hi0 hz0 hz1 _ _ _ _ n0 rfl rfl rfl rfl ?b1 ?b2 ?b3 ?_)
  case b1 => rw [hz2]; omega
  case b2 => unfold maxLen; omega
  case b3 => exact Nat.le_refl _
  intro w1 hown hgrow
  clear hi0 hz0 hz1 hz2
  have hV : VRow w1 w'.heap.size n0 (fun _ => .bool false) := VRow.ofOwns hown (by have := hown.lt _ rfl; omega) (by simpa [Value.cells] using toList_madeCells_one (.bool false) n0)
  have hB : Below w'.heap.size w' w1 := (Below.refl _ _).grown hgrow (Nat.le_refl _) (fun k h => by cases h)
  clear hown hgrow
  go_wp2_with fail
  go_loopw [12] (fun i wr => ∃ k : Nat, k ≤ n3 ∧ i = .int .i64 k ∧ VRow wr w'.heap.size n0 (fun j => .bool (seenK U k j)) ∧ Below w'.heap.size w' wr ∧ Within U k n0 ∧ Apart U k) (fun i _ => n3 - (intOf i).toNat)
  case atStart => exact ⟨0, Nat.zero_le _, rfl, hV, hB, Within.zero _ _, Apart.zero _⟩
  case round =>
    obtain ⟨k, hk, rfl, hVr, hBr, hWi, hAp⟩ := hrel
    clear hV hB
    by_cases hlt : k < n3
    case pos =>
      obtain ⟨b, off, rfl, hb, hcell⟩ := h3.at (by omega)
      have c1 : wr.cell? ⟨b, off + k, none⟩ = some (.int .i64 (U k)) := (hBr.cell hb).trans (hcell k hlt)
      clear hcell
      by_cases hneg : U k < 0
      · go_wp2_with fail
        go_ret
        exact ⟨rfl, hBr⟩
      by_cases hge : (n0 : Int) ≤ U k
      · go_wp2_with fail
        go_ret
        exact ⟨rfl, hBr⟩
      obtain ⟨u, hu⟩ : ∃ u : Nat, U k = (u : Int) := ⟨(U k).toNat, by omega⟩
      rw [hu] at c1 hneg hge
      have HU : Hid (U k = (u : Int)) := hu
      clear hu
      have hun : u < n0 := by omega
      have c2 := hVr.cell u hun
      have f2 := hVr.free u
      cases hs : seenK U k u with
      | true =>
        rw [hs] at c2
        clear hs
        go_wp2_with fail
        go_ret
        exact ⟨rfl, hBr⟩
      | false =>
        rw [hs] at c2
        have HS : Hid (seenK U k u = false) := hs
        clear hs
        go_wp2_with fail
        go_roundw
        case rel => exact ⟨k + 1, by omega, by go_num, (hVr.set hun _).congr (fun j _ => by rw [seenK_step HU.out j]; split <;> rfl), hBr.setCell (Nat.le_refl _) _, hWi.step HU.out hun, hAp.step HU.out HS.out⟩
        case measure => simp [intOf]; omega
    case neg =>
      obtain rfl : n3 = k := by omega
      clear hlt hk
      obtain ⟨wq, hwq⟩ : ∃ wq, wq = wr := ⟨_, rfl⟩
      subst hwq
      go_wp2_with fail
      refine (clone_any a0 n0 c0 O wq (h0.below hBr) s0).mono ?_
      rintro e w2 ⟨ao, rfl, hB2, hO2⟩
      go_wp2_with fail
      refine (new_any ao n0 lo hi w2).mono ?_
      rintro e w3 ⟨rfl, hB3, hT3⟩
      have hs1 := hBr.size
      have hs2 := hVr.lt
      have hV3 := (hVr.below hB2).below hB3
      have hO3 := hO2.below hB3
      have hB03 : Below w'.heap.size w' w3 := hBr.trans (((hB2.mono hs1).trans (hB3.mono (Nat.le_trans hs1 hB2.size))))
      have hlt1 : wq.heap.size < w2.heap.size ∨ n0 = 0 := by
        by_cases z : n0 = 0
        · exact .inr z
        · exact .inl (hO2 (by omega)).2.lt
      have hlt2 : w2.heap.size < w3.heap.size := hT3.lt
      clear hVr hB2 hB3 hO2 hBr
      go_wp2_with fail
      go_loopw [15] (fun i wr => ∃ k : Nat, k ≤ n3 ∧ i = .int .i64 k ∧ Tab wr w2.heap.size ao n0 (minK lo P k) (maxK hi P k) ∧ Own wr ao wq.heap.size n0 (putK U P O k) ∧ VRow wr w'.heap.size n0 (fun j => .bool (seenK U n3 j)) ∧ Below w'.heap.size w' wr) (fun i _ => n3 - (intOf i).toNat)
      case atStart => exact ⟨0, Nat.zero_le _, rfl, hT3, hO3, hV3, hB03⟩
      case round =>
        obtain ⟨k, hk, rfl, hTr, hOr, hVr, hBr⟩ := hrel
        clear hT3 hO3 hV3 hB03
        by_cases hlt : k < n3
        case pos =>
          obtain ⟨u, hu, hun⟩ := hWi.at hlt
          obtain ⟨rfl, hRr⟩ := hOr (by omega)
          obtain ⟨b, off, rfl, hb, hcell⟩ := h3.at (by omega)
          obtain ⟨b4, off4, rfl, hb4, hcell4⟩ := h4.at (by omega)
          have c1 : wr.cell? ⟨b, off + k, none⟩ = some (.int .i64 (u : Int)) := by rw [← hu]; exact (hBr.cell hb).trans (hcell k hlt)
          have c2 : wr.cell? ⟨b4, off4 + k, none⟩ = some (.int .i64 (P k)) := (hBr.cell hb4).trans (hcell4 k hlt)
          have HU : Hid (U k = (u : Int)) := hu
          have hne : wq.heap.size ≠ w2.heap.size := by omega
          clear hu hcell hcell4 hOr
          go_wp2_with fail
          go_region_with (go_at_call 10; refine (zzplace_any w2.heap.size wq.heap.size n0 u (P k) (minK lo P k) (maxK hi P k) (putK U P O k) _ ?_ ?_ hne hun).mono ?_; exact hTr.drew; exact hRr.drew; rintro e w4 ⟨rfl, r1, r2, r3⟩)
          all_goals
            go_wp2_with fail
            go_roundw
            case rel => exact ⟨k + 1, by omega, by go_num, r2, fun _ => ⟨rfl, r3.congr (fun j _ => by rw [putK_upd, HU.out])⟩, hVr.drew.touch r1 (by omega), hBr.drew.trans (r1.below hBr.size (fun j hj => by omega))⟩
            case measure => simp [intOf]; omega
        case neg =>
          obtain rfl : n3 = k := by omega
          clear hlt hk
          obtain ⟨we, hwe⟩ : ∃ we, we = wr := ⟨_, rfl⟩
          subst hwe
          go_wp2_with fail
          refine (clone_any a0 n0 c0 O we (h0.below hBr) s0).mono ?_
          rintro e w5 ⟨bo, rfl, hB5, hO5⟩
          go_wp2_with fail
          refine (new_any bo n0 lo hi w5).mono ?_
          rintro e w6 ⟨rfl, hB6, hT6⟩
          have hs3 := hTr.lt
          have hV6 := (hVr.below hB5).below hB6
          have hTA := (hTr.below hB5).below hB6
          have hOA := (hOr.below hB5).below hB6
          have hO6 := hO5.below hB6
          have hB06 : Below w'.heap.size w' w6 := hBr.trans (((hB5.mono hBr.size).trans (hB6.mono (Nat.le_trans hBr.size hB5.size))))
          have hlt3 : we.heap.size < w5.heap.size ∨ n0 = 0 := by
            by_cases z : n0 = 0
            · exact .inr z
            · exact .inl (hO5 (by omega)).2.lt
          have hlt4 := hB5.size
          clear hVr hB5 hB6 hO5 hBr hTr hOr
          go_wp2_with fail
          go_loopw [17] (fun i wr => ∃ d : Nat, d ≤ n3 ∧ i = .int .i64 ((n3 : Int) - 1 - d) ∧ Tab wr w5.heap.size bo n0 (minK lo (rev n3 P) d) (maxK hi (rev n3 P) d) ∧ Own wr bo we.heap.size n0 (putK (rev n3 U) (rev n3 P) O d) ∧
              Tab wr w2.heap.size ao n0 (minK lo P n3) (maxK hi P n3) ∧ Own wr ao wq.heap.size n0 (putK U P O n3) ∧ VRow wr w'.heap.size n0 (fun j => .bool (seenK U n3 j)) ∧ Below w'.heap.size w' wr) (fun i _ => (intOf i + 1).toNat)
          case atStart => exact ⟨0, Nat.zero_le _, by go_num, hT6, hO6, hTA, hOA, hV6, hB06⟩
          case round =>
            obtain ⟨d, hd, rfl, hTr, hOr, hTA', hOA', hVr, hBr⟩ := hrel
            clear hT6 hO6 hTA hOA hV6 hB06
            by_cases hlt : d < n3
            case pos =>
              obtain ⟨k, hk1, hk2⟩ : ∃ k : Nat, k + d + 1 ≤ n3 ∧ n3 ≤ k + d + 1 := ⟨n3 - 1 - d, by omega, by omega⟩
              rw [show ((n3 : Int) - 1 - (d : Int)) = (k : Int) from by omega]
              obtain ⟨u, hu, hun⟩ := hWi.at (i := k) (by omega)
              obtain ⟨rfl, hRr⟩ := hOr (by omega)
              obtain ⟨b, off, rfl, hb, hcell⟩ := h3.at (by omega)
              obtain ⟨b4, off4, rfl, hb4, hcell4⟩ := h4.at (by omega)
              have c1 : wr.cell? ⟨b, off + k, none⟩ = some (.int .i64 (u : Int)) := by rw [← hu]; exact (hBr.cell hb).trans (hcell k (by omega))
              have c2 : wr.cell? ⟨b4, off4 + k, none⟩ = some (.int .i64 (P k)) := (hBr.cell hb4).trans (hcell4 k (by omega))
              have HU : Hid (rev n3 U d = (u : Int)) := by unfold rev; rw [show n3 - 1 - d = k from by omega]; exact hu
              have HP : Hid (rev n3 P d = P k) := by unfold rev; rw [show n3 - 1 - d = k from by omega]; rfl
              have hne : we.heap.size ≠ w5.heap.size := by omega
              clear hu hcell hcell4 hOr
              go_wp2_with fail
              go_region_with (go_at_call 10; refine (zzplace_any w5.heap.size we.heap.size n0 u (P k) (minK lo (rev n3 P) d) (maxK hi (rev n3 P) d) (putK (rev n3 U) (rev n3 P) O d) _ ?_ ?_ hne hun).mono ?_; exact hTr.drew; exact hRr.drew; rintro e w4 ⟨rfl, r1, r2, r3⟩)
              all_goals
                go_wp2_with fail
                go_roundw
                case rel =>
                  refine ⟨d + 1, by omega, by go_num, ?_, fun _ => ⟨rfl, r3.congr (fun j _ => by rw [putK_upd, HU.out, HP.out])⟩, hTA'.drew.touch r1 (by omega), hOA'.drew.touch r1 (by omega), hVr.drew.touch r1 (by omega), hBr.drew.trans (r1.below hBr.size (fun j hj => by omega))⟩
                  rw [minK_mn, maxK_mx, HP.out]; exact r2
                case measure => simp [intOf]
            case neg =>
              obtain rfl : n3 = d := by omega
              clear hlt hd
              obtain ⟨wf, hwf⟩ : ∃ wf, wf = wr := ⟨_, rfl⟩
              subst hwf
              rw [minK_rev, maxK_rev] at hTr
              have hOr' : Own wf bo we.heap.size n0 (putK U P O n3) := hOr.congr (fun j _ => putK_rev hAp j)
              have hla := minK_le lo P n3
              have hha := maxK_ge hi P n3
              obtain ⟨la, ela⟩ : ∃ la, la = minK lo P n3 := ⟨_, rfl⟩
              obtain ⟨ha, eha⟩ : ∃ ha, ha = maxK hi P n3 := ⟨_, rfl⟩
              rw [← ela] at hTr hTA' hla
              rw [← eha] at hTr hTA' hha
              obtain ⟨hla1, hla2⟩ := hla
              obtain ⟨hha1, hha2⟩ := hha
              have HLA : Hid (∀ i, i < n3 → la ≤ P i) := hla2
              have HHA : Hid (∀ i, i < n3 → P i ≤ ha) := hha2
              clear hla2 hha2 ela eha hOr hlt1 hlt2 hlt3 hlt4 hs1 hs2 hs3
              go_wp2_with fail
              refine (ord_any w2.heap.size ao n0 la ha wf hTA').mono ?_
              rintro e wx ⟨rfl, rfl⟩
              go_wp2_with fail
              refine (ord_any w5.heap.size bo n0 la ha wx hTr).mono ?_
              rintro e wy ⟨rfl, rfl⟩
              go_wp2_with fail
              refine (low_any w2.heap.size ao n0 la ha wy hTA').mono ?_
              rintro e wz ⟨rfl, rfl⟩
              go_wp2_with fail
              refine (high_any w2.heap.size ao n0 la ha wz hTA').mono ?_
              rintro e wx ⟨rfl, rfl⟩
              go_wp2_with fail
              refine (same_any ao bo n0 n0 n0 (putK U P O n3) wx hOA'.reads hOr'.reads s0).mono ?_
              rintro e wy ⟨rfl, q, rfl⟩
              go_wp2_with fail
              refine (low_any w5.heap.size bo n0 la ha _ (hTr.drewN q)).mono ?_
              rintro e wz ⟨rfl, rfl⟩
              go_wp2_with fail
              refine (high_any w5.heap.size bo n0 la ha _ (hTr.drewN q)).mono ?_
              rintro e wz ⟨rfl, rfl⟩
              go_wp2_with fail
              go_loopw [22] (fun i wr => ∃ k : Nat, k ≤ n3 ∧ i = .int .i64 k ∧ ∃ q, wr = wx.drewN q) (fun i _ => n3 - (intOf i).toNat)
              case atStart => exact ⟨0, Nat.zero_le _, rfl, q, rfl⟩
              case round =>
                obtain ⟨k, hk, rfl, q', rfl⟩ := hrel
                by_cases hlt : k < n3
                case pos =>
                  obtain ⟨u, hu, hun⟩ := hWi.at hlt
                  obtain ⟨rfl, hRr⟩ := hOA' (by omega)
                  obtain ⟨b, off, rfl, hb, hcell⟩ := h3.at (by omega)
                  obtain ⟨b4, off4, rfl, hb4, hcell4⟩ := h4.at (by omega)
                  have c1 : wx.cell? ⟨b, off + k, none⟩ = some (.int .i64 (u : Int)) := by rw [← hu]; exact (hBr.cell hb).trans (hcell k hlt)
                  have c2 : wx.cell? ⟨b4, off4 + k, none⟩ = some (.int .i64 (P k)) := (hBr.cell hb4).trans (hcell4 k hlt)
                  have c3 : wx.cell? ⟨wq.heap.size, u, none⟩ = some (.int .i64 (P k)) := by
                    rw [hRr.cell u hun, putK_at hlt hu (fun j h1 h2 e => hAp k j h1 h2 (hu.trans e.symm))]
                  have g1 : decide (P k < la) = false := decide_eq_false (by have := HLA.out k hlt; omega)
                  have g2 : decide (ha < P k) = false := decide_eq_false (by have := HHA.out k hlt; omega)
                  have hun' : (u : Int) < (n0 : Int) := by omega
                  have hlt' : (k : Int) < (n3 : Int) := by omega
                  clear hu hcell hcell4
                  go_wp2_with fail
                  go_quiet (fail)
                  go_wp2_with fail
                  go_roundw
                  case rel => exact ⟨k + 1, by omega, by go_num, _, rfl⟩
                  case measure => simp [intOf]; omega
                case neg =>
                  obtain rfl : n3 = k := by omega
                  clear hlt hk
                  go_wp2_with fail
                  go_loopw [23] (fun i wr => ∃ k : Nat, k ≤ n0 ∧ i = .int .i64 k ∧ ∃ q, wr = wx.drewN q) (fun i _ => n0 - (intOf i).toNat)
                  case atStart => exact ⟨0, Nat.zero_le _, rfl, q', rfl⟩
                  case round =>
                    obtain ⟨k, hk, rfl, q2, rfl⟩ := hrel
                    by_cases hlt : k < n0
                    case pos =>
                      obtain ⟨rfl, hRr⟩ := hOA' (by omega)
                      obtain ⟨b, off, rfl, hb, hcell⟩ := h0.at (by omega)
                      have c1 : wx.cell? ⟨b, off + k, none⟩ = some (.int .i64 (O k)) := (hBr.cell hb).trans (hcell k hlt)
                      have c2 := hVr.cell k hlt
                      have c3 := hRr.cell k hlt
                      have hlt' : (k : Int) < (n0 : Int) := by omega
                      clear hcell
                      cases hs : seenK U n3 k with
                      | true =>
                        rw [hs] at c2
                        clear hs
                        go_wp2_with fail
                        go_quiet (fail)
                        go_wp2_with fail
                        go_roundw
                        case rel => exact ⟨k + 1, by omega, by go_num, _, rfl⟩
                        case measure => simp [intOf]; omega
                      | false =>
                        rw [hs] at c2
                        rw [putK_other (seenK_false hs)] at c3
                        clear hs
                        go_wp2_with fail
                        go_quiet (fail)
                        go_wp2_with fail
                        go_roundw
                        case rel => exact ⟨k + 1, by omega, by go_num, _, rfl⟩
                        case measure => simp [intOf]; omega
                    case neg =>
                      go_wp2_with fail
                      go_ret
                      exact ⟨rfl, hBr.os, hBr.tape, hBr.output, hBr.size, hBr.block⟩
end Go.Proofs.Qxb6616332a
