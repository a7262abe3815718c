/-
  The walk of FnPlaceScriptMatchesLastWrite.
-/
import Derived.Test.Qxb6616332aLeaves
import Derived.Deep.QuietTactic
import Derived.BigQuiet
import Derived.Deep.RegionWith
namespace Go.Proofs.Qxb6616332a
open Go.RowKit Plain

theorem minK_yes {lo : Int} {P : Nat → Int} {k : Nat} (h : P k < minK lo P k) : Value.int .i64 (P k) = .int .i64 (minK lo P (k + 1)) := by rw [minK_mn, mn, if_pos h]
theorem minK_no {lo : Int} {P : Nat → Int} {k : Nat} (h : ¬ P k < minK lo P k) : Value.int .i64 (minK lo P k) = .int .i64 (minK lo P (k + 1)) := by rw [minK_mn, mn, if_neg h]
theorem maxK_yes {hi : Int} {P : Nat → Int} {k : Nat} (h : maxK hi P k < P k) : Value.int .i64 (P k) = .int .i64 (maxK hi P (k + 1)) := by rw [maxK_mx, mx, if_pos h]
theorem maxK_no {hi : Int} {P : Nat → Int} {k : Nat} (h : ¬ maxK hi P k < P k) : Value.int .i64 (maxK hi P k) = .int .i64 (maxK hi P (k + 1)) := by rw [maxK_mx, mx, if_neg h]

set_option maxHeartbeats 1600000 in
set_option maxRecDepth 100000 in
theorem last_walk (a0 a3 a4 : Option Addr) (n0 c0 n3 c3 n4 c4 : Nat) (lo hi : Int) (O U P : Nat → Int) (w : World)
    (h0 : InRow w a0 n0 c0 O) (h3 : InRow w a3 n3 c3 U) (h4 : InRow w a4 n4 c4 P) (m0 : n0 ≤ maxLen) (m3 : n3 ≤ maxLen) (m4 : n4 ≤ maxLen) :
    Calls Try.prog 6 #[.slice a0 n0 c0, .int .i64 lo, .int .i64 hi, .slice a3 n3 c3, .slice a4 n4 c4] w fun e w' => e = .returned (.bool true) ∧ Below w.heap.size w w' := by
  obtain ⟨i0, hi0, hz0, hz1, hz2⟩ := info_parts Try.info4
  unfold maxLen at m0 m3 m4
  go_enter Try.func6, Try.ntmps6
  go_wp2_with fail
  refine (bytes2_any a0 a3 a4 n0 c0 n3 c3 n4 c4 lo hi w m0 m3 m4).mono ?_
  rintro e w' ⟨b, rfl, rfl, hb⟩
  by_cases hb' : b = true
  case neg =>
    obtain rfl : b = false := by simpa using hb'
    go_wp2
    go_ret
    exact ⟨rfl, Below.refl _ _⟩
  subst hb'
  obtain ⟨s0, s3, s4⟩ := hb rfl
  clear hb
  by_cases t0 : n0 ≤ 32768
  case neg =>
    go_wp2
    go_ret
    exact ⟨rfl, Below.refl _ _⟩
  by_cases t3 : n3 ≤ 32768
  case neg =>
    go_wp2
    go_ret
    exact ⟨rfl, Below.refl _ _⟩
  by_cases t4 : n4 ≤ 32768
  case neg =>
    go_wp2
    go_ret
    exact ⟨rfl, Below.refl _ _⟩
  by_cases e34 : n3 = n4
  case neg =>
    go_wp2
    go_ret
    exact ⟨rfl, Below.refl _ _⟩
  subst e34
  go_wp2_with fail
  go_loop [11] (fun i => ∃ k : Nat, k ≤ n3 ∧ i = .int .i64 k ∧ Within U k n0) (fun i => n3 - (intOf i).toNat)
  case atStart => exact ⟨0, Nat.zero_le _, rfl, Within.zero _ _⟩
  case round =>
    obtain ⟨k, hk, rfl, hWi⟩ := hrel
    by_cases hlt : k < n3
    case pos =>
      obtain ⟨b, off, rfl, hb, hcell⟩ := h3.at (by omega)
      have c1 : w'.cell? ⟨b, off + k, none⟩ = some (.int .i64 (U k)) := hcell k hlt
      clear hcell
      by_cases hneg : U k < 0
      · go_wp2_with fail
        go_ret
        exact ⟨rfl, Below.refl _ _⟩
      by_cases hge : (n0 : Int) ≤ U k
      · go_wp2_with fail
        go_ret
        exact ⟨rfl, Below.refl _ _⟩
      obtain ⟨u, hu⟩ : ∃ u : Nat, U k = (u : Int) := ⟨(U k).toNat, by omega⟩
      rw [hu] at c1 hneg hge
      have HU : Hid (U k = (u : Int)) := hu
      clear hu
      have hun : u < n0 := by omega
      go_wp2_with fail
      go_round
      case rel => exact ⟨k + 1, by omega, by go_num, hWi.step HU.out hun⟩
      case measure => simp [intOf]; omega
    case neg =>
      obtain rfl : n3 = k := by omega
      clear hlt hk
      go_wp2_with fail
      refine (clone_any a0 n0 c0 O w' h0 s0).mono ?_
      rintro e w2 ⟨ao, rfl, hB2, hO2⟩
      go_wp2_with fail
      refine (new_any ao n0 lo hi w2).mono ?_
      rintro e w3 ⟨rfl, hB3, hT3⟩
      have hO3 := hO2.below hB3
      have hB03 : Below w'.heap.size w' w3 := hB2.trans (hB3.mono hB2.size)
      have hlt1 : w'.heap.size < w2.heap.size ∨ n0 = 0 := by
        by_cases z : n0 = 0
        · exact .inr z
        · exact .inl (hO2 (by omega)).2.lt
      have hs1 := hB2.size
      clear hB2 hB3 hO2
      go_wp2_with fail
      go_loopw [14] (fun i wr => ∃ k : Nat, k ≤ n3 ∧ i = .int .i64 k ∧ Tab wr w2.heap.size ao n0 (minK lo P k) (maxK hi P k) ∧ Own wr ao w'.heap.size n0 (putK U P O k) ∧ Below w'.heap.size w' wr) (fun i _ => n3 - (intOf i).toNat)
      case atStart => exact ⟨0, Nat.zero_le _, rfl, hT3, hO3, hB03⟩
      case round =>
        obtain ⟨k, hk, rfl, hTr, hOr, hBr⟩ := hrel
        clear hT3 hO3 hB03
        by_cases hlt : k < n3
        case pos =>
          obtain ⟨u, hu, hun⟩ := hWi.at hlt
          obtain ⟨rfl, hRr⟩ := hOr (by omega)
          obtain ⟨b, off, rfl, hb, hcell⟩ := h3.at (by omega)
          obtain ⟨b4, off4, rfl, hb4, hcell4⟩ := h4.at (by omega)
          have c1 : wr.cell? ⟨b, off + k, none⟩ = some (.int .i64 (u : Int)) := by rw [← hu]; exact (hBr.cell hb).trans (hcell k hlt)
          have c2 : wr.cell? ⟨b4, off4 + k, none⟩ = some (.int .i64 (P k)) := (hBr.cell hb4).trans (hcell4 k hlt)
          have HU : Hid (U k = (u : Int)) := hu
          have hne : w'.heap.size ≠ w2.heap.size := by omega
          clear hu hcell hcell4 hOr
          go_wp2_with fail
          go_region_with (go_at_call 10; refine (zzplace_any w2.heap.size w'.heap.size n0 u (P k) (minK lo P k) (maxK hi P k) (putK U P O k) _ ?_ ?_ hne hun).mono ?_; exact hTr.drew; exact hRr.drew; rintro e w4 ⟨rfl, r1, r2, r3⟩)
          all_goals
            go_wp2_with fail
            go_roundw
            case rel => exact ⟨k + 1, by omega, by go_num, r2, fun _ => ⟨rfl, r3.congr (fun j _ => by rw [putK_upd, HU.out])⟩, hBr.drew.trans (r1.below hBr.size (fun j hj => by omega))⟩
            case measure => simp [intOf]; omega
        case neg =>
          obtain rfl : n3 = k := by omega
          clear hlt hk
          obtain ⟨we, hwe⟩ : ∃ we, we = wr := ⟨_, rfl⟩
          subst hwe
          go_wp2_with fail
          refine (clone_any a0 n0 c0 O we (h0.below hBr) s0).mono ?_
          rintro e w5 ⟨bo, rfl, hB5, hO5⟩
          have hs3 := hTr.lt
          have hTA := hTr.below hB5
          have hOA := hOr.below hB5
          have hB05 : Below w'.heap.size w' w5 := hBr.trans (hB5.mono hBr.size)
          have hlt3 : we.heap.size < w5.heap.size ∨ n0 = 0 := by
            by_cases z : n0 = 0
            · exact .inr z
            · exact .inl (hO5 (by omega)).2.lt
          have hs5 := hB5.size
          clear hB5 hBr hTr hOr
          go_wp2_with (at_make; refine wpList_make_full _ rfl _ _ 25 rfl w5.heap.size 4 i0 (.bool false) 1 Try.underlying25 hi0 hz0 hz1 _ _ _ _ n0 rfl rfl rfl rfl ?b1 ?b2 ?b3 ?_)
          case b1 => rw [hz2]; omega
          case b2 => unfold maxLen; omega
          case b3 => exact Nat.le_refl _
          intro w6 hown hgrow
          clear hi0 hz0 hz1 hz2
          have hV6 : VRow w6 w5.heap.size n0 (fun _ => .bool false) := VRow.ofOwns hown (by have := hown.lt _ rfl; omega) (by simpa [Value.cells] using toList_madeCells_one (.bool false) n0)
          have hB6 : Below w5.heap.size w5 w6 := (Below.refl _ _).grown hgrow (Nat.le_refl _) (fun k h => by cases h)
          have hT6 := hTA.below hB6
          have hO6 := hO5.below hB6
          have hA6 := hOA.below hB6
          have hB06 : Below w'.heap.size w' w6 := hB05.trans (hB6.mono hB05.size)
          clear hown hgrow hB6 hTA hOA hO5 hB05
          go_wp2_with fail
          go_loopw [17] (fun i wr => ∃ k : Nat, k ≤ n3 ∧ i = .int .i64 ((k : Int) - 1) ∧ Tab wr w2.heap.size ao n0 (minK lo P n3) (maxK hi P n3) ∧ Own wr ao w'.heap.size n0 (putK U P O n3) ∧
              Own wr bo we.heap.size n0 (wantK U P O n3 k) ∧ VRow wr w5.heap.size n0 (fun j => .bool (doneK U n3 k j)) ∧ Below w'.heap.size w' wr) (fun i _ => (intOf i + 1).toNat)
          case atStart => exact ⟨n3, Nat.le_refl _, by go_num, hT6, hA6, hO6.congr (fun j _ => (wantK_m U P O n3 j).symm), hV6.congr (fun j _ => by rw [doneK_m]), hB06⟩
          case round =>
            obtain ⟨k, hk, rfl, hTr, hAr, hOr, hVr, hBr⟩ := hrel
            clear hT6 hA6 hO6 hV6 hB06
            by_cases hz : 0 < k
            case pos =>
              obtain ⟨j, rfl⟩ : ∃ j, k = j + 1 := ⟨k - 1, by omega⟩
              rw [show (((j + 1 : Nat) : Int) - 1) = (j : Int) from by omega]
              obtain ⟨u, hu, hun⟩ := hWi.at (i := j) (by omega)
              obtain ⟨rfl, hRr⟩ := hOr (by omega)
              obtain ⟨b, off, rfl, hb, hcell⟩ := h3.at (by omega)
              obtain ⟨b4, off4, rfl, hb4, hcell4⟩ := h4.at (by omega)
              have c1 : wr.cell? ⟨b, off + j, none⟩ = some (.int .i64 (u : Int)) := by rw [← hu]; exact (hBr.cell hb).trans (hcell j (by omega))
              have c2 : wr.cell? ⟨b4, off4 + j, none⟩ = some (.int .i64 (P j)) := (hBr.cell hb4).trans (hcell4 j (by omega))
              have c3 := hVr.cell u hun
              have c4 := hRr.cell u hun
              have f3 := hVr.free u
              have f4 := hRr.free u
              have hne : we.heap.size ≠ w5.heap.size := by omega
              have HU : Hid (U j = (u : Int)) := hu
              clear hu hcell hcell4 hOr
              cases hs : doneK U n3 (j + 1) u with
              | true =>
                rw [hs] at c3
                have HS : Hid (doneK U n3 (j + 1) u = true) := hs
                clear hs
                go_wp2_with fail
                go_roundw
                case rel => exact ⟨j, by omega, by go_num, hTr, hAr, fun _ => ⟨rfl, hRr.congr (fun x _ => by rw [(wantK_skip (P := P) (O := O) (by omega) HU.out HS.out x).2])⟩, hVr.congr (fun x _ => by rw [(wantK_skip (P := P) (O := O) (by omega) HU.out HS.out x).1]), hBr⟩
                case measure => simp [intOf]
              | false =>
                rw [hs] at c3
                have HS : Hid (doneK U n3 (j + 1) u = false) := hs
                clear hs
                go_wp2_with fail
                go_roundw
                case rel =>
                  have hT2 : Touch (fun x => x = w5.heap.size ∨ x = we.heap.size) wr ((wr.setCell ⟨w5.heap.size, u, none⟩ (.bool true)).setCell ⟨we.heap.size, u, none⟩ (.int .i64 (P j))) := ((Touch.refl _ _).setCell (.inl rfl) _).setCell (.inr rfl) _
                  refine ⟨j, by omega, by go_num, hTr.touch hT2 (by omega), hAr.touch hT2 (by omega), fun _ => ⟨rfl, ?_⟩, ?_, hBr.trans (hT2.below hBr.size (fun x hx => by omega))⟩
                  · refine ((hRr.setOther (fun e => hne e.symm) _).set hun _).congr (fun x _ => ?_)
                    rw [(wantK_put (P := P) (O := O) (by omega) HU.out HS.out x).2]
                    split <;> rfl
                  · refine ((hVr.set hun _).setOther hne _).congr (fun x _ => ?_)
                    rw [(wantK_put (P := P) (O := O) (by omega) HU.out HS.out x).1]
                    split <;> rfl
                case measure => simp [intOf]
            case neg =>
              obtain rfl : 0 = k := by omega
              clear hz hk
              obtain ⟨wf, hwf⟩ : ∃ wf, wf = wr := ⟨_, rfl⟩
              subst hwf
              have hOr' : Own wf bo we.heap.size n0 (putK U P O n3) := hOr.congr (fun j _ => wantK_zero U P O n3 j)
              clear hOr hVr hs1 hs3 hs5 hlt1 hlt3
              go_wp2_with fail
              go_loop [19, 20, 21] (fun l h i => ∃ k : Nat, k ≤ n3 ∧ i = .int .i64 k ∧ l = .int .i64 (minK lo P k) ∧ h = .int .i64 (maxK hi P k)) (fun _ _ i => n3 - (intOf i).toNat)
              case atStart => exact ⟨0, Nat.zero_le _, rfl, rfl, rfl⟩
              case round =>
                obtain ⟨k, hk, rfl, rfl, rfl⟩ := hrel
                by_cases hlt : k < n3
                case pos =>
                  obtain ⟨b4, off4, rfl, hb4, hcell4⟩ := h4.at (by omega)
                  have c2 : wf.cell? ⟨b4, off4 + k, none⟩ = some (.int .i64 (P k)) := (hBr.cell hb4).trans (hcell4 k hlt)
                  clear hcell4
                  by_cases g1 : P k < minK lo P k
                  · by_cases g2 : maxK hi P k < P k
                    · go_wp2_with fail
                      go_round
                      case rel => exact ⟨k + 1, by omega, by go_num, minK_yes g1, maxK_yes g2⟩
                      case measure => simp [intOf]; omega
                    · go_wp2_with fail
                      go_round
                      case rel => exact ⟨k + 1, by omega, by go_num, minK_yes g1, maxK_no g2⟩
                      case measure => simp [intOf]; omega
                  · by_cases g2 : maxK hi P k < P k
                    · go_wp2_with fail
                      go_round
                      case rel => exact ⟨k + 1, by omega, by go_num, minK_no g1, maxK_yes g2⟩
                      case measure => simp [intOf]; omega
                    · go_wp2_with fail
                      go_round
                      case rel => exact ⟨k + 1, by omega, by go_num, minK_no g1, maxK_no g2⟩
                      case measure => simp [intOf]; omega
                case neg =>
                  obtain rfl : n3 = k := by omega
                  clear hlt hk
                  go_wp2_with fail
                  refine (ord_any w2.heap.size ao n0 _ _ wf hTr).mono ?_
                  rintro e wx ⟨rfl, rfl⟩
                  go_wp2_with fail
                  refine (same_any ao bo n0 n0 n0 (putK U P O n3) wx hAr.reads hOr'.reads s0).mono ?_
                  rintro e wy ⟨rfl, q, rfl⟩
                  go_wp2_with fail
                  refine (low_any w2.heap.size ao n0 _ _ _ (hTr.drewN q)).mono ?_
                  rintro e wz ⟨rfl, rfl⟩
                  go_wp2_with fail
                  refine (high_any w2.heap.size ao n0 _ _ _ (hTr.drewN q)).mono ?_
                  rintro e wz ⟨rfl, rfl⟩
                  go_wp2_with fail
                  go_ret
                  exact ⟨rfl, hBr.os, hBr.tape, hBr.output, hBr.size, hBr.block⟩
end Go.Proofs.Qxb6616332a
