/-
  The walk of FnSignatureHeadersHandsOutFreshCopies.
-/
import Derived.Test.Qxb6616369aHdrLeaves
namespace Go.Proofs.Qxb6616369a
open Go.RowKit

set_option maxHeartbeats 1600000 in
set_option maxRecDepth 100000 in
theorem hdr_walk (a : Option Addr) (n c : Nat) (y : Bool) (N : Nat → ByteArray) (C : Nat → Int) (w : World) (h : InRules w a n c N C) (hm : n ≤ maxLen) (hs : ∀ i, i < n → (N i).size ≤ maxLen) :
    Calls Try.prog 5 #[.slice a n c, .bool y] w fun e w' => e = .returned (.bool true) ∧ Below w.heap.size w w' := by
  have HS : Hid (∀ i, i < n → (N i).size ≤ maxLen) := hs
  clear hs
  have HM : Hid (n ≤ maxLen) := hm
  unfold maxLen at hm
  go_enter Try.func5, Try.ntmps5
  go_wp2_with fail
  refine (bytes_any a n c y N C w h HM.out HS.out).mono ?_
  rintro e w' ⟨⟨b, rfl, hb⟩, rfl⟩
  by_cases hb' : b = true
  case neg =>
    obtain rfl : b = false := by simpa using hb'
    go_wp2
    go_ret
    exact ⟨rfl, Below.refl _ _⟩
  subst hb'
  have s0 : n ≤ 1048576 := (hb rfl).1
  have HN : Hid (∀ i, i < n → (N i).size ≤ 1048576) := (hb rfl).2
  clear hb HS
  by_cases t0 : n ≤ 4096
  case neg =>
    go_wp2
    go_ret
    exact ⟨rfl, Below.refl _ _⟩
  go_wp2_with fail
  refine (hbytes_any a n c N C w' h t0 HN).mono ?_
  rintro e w ⟨⟨m, rfl, _⟩, rfl⟩
  by_cases t1 : m ≤ 1048576
  case neg =>
    go_wp2
    go_ret
    exact ⟨rfl, Below.refl _ _⟩
  go_wp2_with fail
  refine (fit_any a n c N C w h t0).mono ?_
  rintro e w' ⟨⟨b, rfl, _⟩, rfl⟩
  by_cases hb' : b = true
  case neg =>
    obtain rfl : b = false := by simpa using hb'
    go_wp2
    go_ret
    exact ⟨rfl, Below.refl _ _⟩
  subst hb'
  go_wp2_with fail
  refine (names_any a n c N C w' h s0).mono ?_
  rintro e w1 ⟨rfl, hB1, hN1⟩
  go_wp2_with fail
  refine (carries_any a n c N C w1 (h.below hB1) s0).mono ?_
  rintro e w2 ⟨rfl, hB2, hC2⟩
  have hN2 := hN1.below hB2
  have hB02 : Below w'.heap.size w' w2 := hB1.trans (hB2.mono hB1.size)
  clear hB1 hB2 hN1
  go_wp2_with fail
  refine (new_any w'.heap.size w1.heap.size n N C y w2 hN2 hC2 t0).mono ?_
  rintro e w3 ⟨t, rfl, hB3, hT3⟩
  have hN3 := hN2.below hB3
  have hB03 : Below w'.heap.size w' w3 := hB02.trans (hB3.mono hB02.size)
  have ht3 := World.block_lt_of_cell? w3 _ hT3
  clear hC2 hB3 hN2 hB02
  go_wp2_with fail
  refine (sig_any t w'.heap.size n N w3 hT3 hN3 s0).mono ?_
  rintro e w4 ⟨f, cf, rfl, hB4, hf4, hF4⟩
  have hN4 := hN3.below hB4
  have hT4 : w4.cell? ⟨t, 16, none⟩ = some (.slice (some ⟨w'.heap.size, 0, none⟩) n n) := (hB4.cell ht3).trans hT3
  have hB04 : Below w'.heap.size w' w4 := hB03.trans (hB4.mono hB03.size)
  have hs3 := hN3.lt
  clear hB4 hN3 hT3 hB03
  go_wp2_with fail
  refine (names_any a n c N C w4 (h.below hB04) s0).mono ?_
  rintro e w5 ⟨rfl, hB5, hN5⟩
  have hF5 := hF4.below hB5
  have hX5 := hN4.below hB5
  have hT5 : w5.cell? ⟨t, 16, none⟩ = some (.slice (some ⟨w'.heap.size, 0, none⟩) n n) := (hB5.cell (World.block_lt_of_cell? w4 _ hT4)).trans hT4
  have hB05 : Below w'.heap.size w' w5 := hB04.trans (hB5.mono hB04.size)
  clear hB5 hF4 hN4 hT4 hB04
  go_wp2_with fail
  refine (same_any _ _ n cf n N w5 hF5.reads hN5.reads s0).mono ?_
  rintro e w6 ⟨rfl, q, rfl⟩
  go_wp2_with fail
  go_loopw [37] (fun i wr => ∃ k : Nat, k ≤ n ∧ i = .int .i64 k ∧ VRow wr f n (fun j => if j < k then .string (N j ++ ⟨#[35]⟩) else .string (N j)) ∧ VRow wr w'.heap.size n (fun j => .string (N j)) ∧ wr.cell? ⟨t, 16, none⟩ = some (.slice (some ⟨w'.heap.size, 0, none⟩) n n) ∧ Below w'.heap.size w' wr) (fun i _ => n - (intOf i).toNat)
  case atStart => exact ⟨0, Nat.zero_le _, rfl, (hF5.drewN q).congr (fun j _ => by simp), hX5.drewN q, hT5, ⟨hB05.os, hB05.tape, hB05.output, hB05.size, hB05.block⟩⟩
  case round =>
    obtain ⟨k, hk, rfl, hFr, hXr, hTr, hBr⟩ := hrel
    clear hF5 hX5 hT5 hB05 hN5
    by_cases hlt : k < n
    case pos =>
      have c1 : wr.cell? ⟨f, k, none⟩ = some (.string (N k)) := by rw [hFr.cell k hlt]; simp
      have f1 := hFr.free k
      obtain ⟨z, hz⟩ : ∃ z, z = N k := ⟨_, rfl⟩
      rw [← hz] at c1
      have hzs : z.size ≤ 1048576 := by rw [hz]; exact HN.out k hlt
      have HZ : Hid (z = N k) := hz
      clear hz
      have hft : t < w3.heap.size := ht3
      go_wp2_with fail
      go_roundw
      case rel =>
        refine ⟨k + 1, by omega, by go_num, ?_, hXr.setOther (by show f ≠ _; omega) _, ?_, hBr.setCell (by show _ ≤ f; omega) _⟩
        · refine (hFr.set hlt _).congr (fun j _ => ?_)
          by_cases e : j = k
          · subst e; rw [HZ.out]; simp
          · rw [if_neg e]
            by_cases h : j < k
            · rw [if_pos h, if_pos (by omega)]
            · rw [if_neg h, if_neg (by omega)]
        · rw [World.cell?_setCell_other wr ⟨f, k, none⟩ ⟨t, 16, none⟩ _ (fun e => by have := congrArg Addr.block e; simp at this; omega)]; exact hTr
      case measure => simp [intOf]; omega
    case neg =>
      go_wp2_with fail
      refine (sig_any t w'.heap.size n N wr hTr hXr s0).mono ?_
      rintro e w7 ⟨f2, cf2, rfl, hB7, hf7, hF7⟩
      have hB07 : Below w'.heap.size w' w7 := hBr.trans (hB7.mono hBr.size)
      clear hB7 hBr hFr hXr hTr
      go_wp2_with fail
      refine (names_any a n c N C w7 (h.below hB07) s0).mono ?_
      rintro e w8 ⟨rfl, hB8, hN8⟩
      have hF8 := hF7.below hB8
      have hB08 : Below w'.heap.size w' w8 := hB07.trans (hB8.mono hB07.size)
      clear hB8 hF7 hB07
      go_wp2_with fail
      refine (same_any _ _ n cf2 n N w8 hF8.reads hN8.reads s0).mono ?_
      rintro e w9 ⟨rfl, q2, rfl⟩
      go_wp2_with fail
      go_ret
      exact ⟨rfl, hB08.os, hB08.tape, hB08.output, hB08.size, hB08.block⟩
end Go.Proofs.Qxb6616369a
