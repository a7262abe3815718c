/-
  The walk of zzItoa: the decimal numeral, by hand.
-/
import Derived.Test.Qxb6616338aFmtProg
import Derived.Test.Qxb6616338aFmtHeap
import Derived.Test.Qxb6616338aFmtPlain
import Derived.WalkKit
import Derived.WalkSpells
import Derived.WalkLawsBesides
import Derived.Lib.SlBytesRow
import Derived.Deep.Cut
namespace Go.Proofs.Qxb6616338aFmt
open Go.RowKit Plain

/-- The 24 cells of block g: from i on the bytes L. -/
def Buf (w : World) (g i : Nat) (L : List UInt8) : Prop := ∃ V, VRow w g 24 V ∧ i + L.length = 24 ∧ ∀ j, j < L.length → V (i + j) = .int .u8 ((L.getD j 0).toNat : Int)
theorem Buf.push {w : World} {g i : Nat} {L : List UInt8} (h : Buf w g (i + 1) L) (c : UInt8) : Buf (w.setCell ⟨g, i, none⟩ (.int .u8 (c.toNat : Int))) g i (c :: L) := by
  obtain ⟨V, hV, hl, hc⟩ := h
  refine ⟨_, hV.set (j := i) (by omega) _, by simp; omega, fun j hj => ?_⟩
  cases j with
  | zero => simp
  | succ j =>
    rw [if_neg (by omega), show i + (j + 1) = i + 1 + j by omega, hc j (by simpa using hj)]
    simp
theorem Buf.bytes {w : World} {g i : Nat} {L : List UInt8} (h : Buf w g i L) : Lib.Bytes w g i ⟨L.toArray⟩ := by
  obtain ⟨V, hV, hl, hc⟩ := h
  intro j hj
  have hj' : j < L.length := by simpa [ByteArray.size] using hj
  rw [hV.cell (i + j) (by omega), hc j hj']
  have e : (⟨L.toArray⟩ : ByteArray)[j] = L[j] := rfl
  simp [e, hj']
theorem buf_new (w : World) (T : TypeId) : Buf (w.alloc (.cells #[.int .u8 0, .int .u8 0, .int .u8 0, .int .u8 0, .int .u8 0, .int .u8 0, .int .u8 0, .int .u8 0, .int .u8 0, .int .u8 0, .int .u8 0, .int .u8 0, .int .u8 0, .int .u8 0, .int .u8 0, .int .u8 0, .int .u8 0, .int .u8 0, .int .u8 0, .int .u8 0, .int .u8 0, .int .u8 0, .int .u8 0, .int .u8 0] T)) w.heap.size 24 [] := by
  refine ⟨fun _ => .int .u8 0, ⟨by simp, fun j hj => ?_, fun j => World.frozen?_alloc_new w _ _ j⟩, rfl, fun j hj => by simp at hj⟩
  rw [World.cell?_alloc_at _ _ _ _ rfl]
  match j, hj with
  | 0, _ | 1, _ | 2, _ | 3, _ | 4, _ | 5, _ | 6, _ | 7, _ | 8, _ | 9, _ | 10, _ | 11, _ | 12, _ | 13, _ | 14, _ | 15, _ | 16, _ | 17, _ | 18, _ | 19, _ | 20, _ | 21, _ | 22, _ | 23, _ => rfl
  | (n + 24), h => omega
theorem digit_byte (v : Nat) : ((UInt8.ofNat (48 + v % 10)).toNat : Int) = 48 + (v : Int) % 10 := by
  have : (UInt8.ofNat (48 + v % 10)).toNat = 48 + v % 10 := by simp; omega
  omega
theorem pow_pos_of {v e : Nat} (h : v < 10 ^ e) (hv : 0 < v) : 1 ≤ e := by
  cases e with
  | zero => simp at h; omega
  | succ e => omega
theorem pow_step {v e : Nat} (h : v < 10 ^ (e + 1)) : v / 10 < 10 ^ e := by
  rw [Nat.pow_succ] at h
  omega

theorem pow20 {u : Nat} (h : u ≤ 9223372036854775808) : u < 10 ^ 20 := by
  have : (10 : Nat) ^ 20 = 100000000000000000000 := by decide
  omega

theorem arr45 : Tryf.prog.underlying 45 = some (.array (Tryf.prog.arrayLen 45) (Tryf.prog.elem 45)) := by kernel_rfl
theorem arr45len : Tryf.prog.arrayLen 45 = 24 := by kernel_rfl
theorem arr45size (w : World) : (sizeOf (Tryf.prog.elem 45)).run Tryf.prog w = .ok 1 w := by kernel_rfl
/-- 'buf[i:]'. -/
theorem run_tail (g i : Nat) (x : Int) (hx : x = (i : Int)) (hi : i < 24) (w : World) : (Instr.sliceAt 45 (.pointer (some ⟨g, 0, none⟩)) (some (.int .i64 x)) none none).run Tryf.prog w = .ok (.slice (some ⟨g, i, none⟩) (24 - i) (24 - i)) w := by
  rw [run_sliceAt_array_l w 45 ⟨g, 0, none⟩ arr45 .i64 x (by omega) (by rw [arr45len]; omega), arr45size]
  simp only [Result.andThen, slicedAt, arr45len]
  rw [if_neg (by omega), show x.toNat = i by omega, Nat.mul_one, show (⟨g, 0, none⟩ : Addr).add i = ⟨g, i, none⟩ from by unfold Addr.add; split <;> simp_all]
/-- 'string(buf[i:])'. -/
theorem run_text {w : World} {g i : Nat} {L : List UInt8} (h : Buf w g i L) : (convert 46 9 (.slice (some ⟨g, i, none⟩) (24 - i) (24 - i))).run Tryf.prog w = .ok (.string ⟨L.toArray⟩) w := by
  have hb := h.bytes
  obtain ⟨V, hV, hl, hc⟩ := h
  have := Lib.run_convert_whole (P := Tryf.prog) w 46 5 9 Tryf.underlying46 Tryf.underlying5 Tryf.underlying9 g i ⟨L.toArray⟩ hb (24 - i)
  rwa [show (⟨L.toArray⟩ : ByteArray).size = 24 - i from by simp [ByteArray.size]; omega] at this

/-- The loop's relation. -/
def Rel (u g : Nat) (w0 : World) (s i : Value) (wr : World) : Prop :=
  ∃ (v j : Nat) (L : List UInt8), s = .int .u64 (v : Int) ∧ i = .int .i64 ((j + 4 : Nat) : Int) ∧ v < 18446744073709551616 ∧ j ≤ 20 ∧ v < 10 ^ j ∧ dd v ++ L = dd u ∧ Buf wr g (j + 4) L ∧ Below w0.heap.size w0 wr


theorem zzitoa_neg (k : Int) (w : World) (h0 : -9223372036854775808 ≤ k) (h2 : k ≤ 9223372036854775807) (h1 : k < 0) :
    Calls Tryf.prog 8 #[.int .i64 k] w fun e w' => e = .returned (.string ⟨(Lib.itoa k).toArray⟩) ∧ Below w.heap.size w w' := by
  obtain ⟨u, hu, hu1, hu2⟩ : ∃ u : Nat, k = -(u : Int) ∧ 0 < u ∧ u ≤ 9223372036854775808 := ⟨k.natAbs, by omega, by omega, by omega⟩
  have HK : Hid (Lib.itoa k = 45 :: dd u) := by
    subst hu
    unfold Hid Lib.itoa
    rw [if_pos (by omega), show (-(u : Int)).natAbs = u by omega, dd_pos (by omega)]
  have HKK : Hid (k = -(u : Int)) := hu
  have hk1 : (k == 0) = false := beq_eq_false_iff_ne.2 (by omega)
  clear hu
  go_enter Tryf.func8, Tryf.ntmps8
  go_wp2
  go_loopw [4, 6] (fun s i wr => Rel u w.heap.size w s i wr) (fun s _ _ => (intOf s).toNat)
  case atStart =>
    refine ⟨u, 20, [], by rw [HKK.out]; go_num, rfl, by omega, Nat.le_refl _, pow20 hu2, by simp, buf_new w 45, (Below.refl _ _).alloc (Nat.le_refl _) _⟩
  case round =>
    obtain ⟨v, j, L, rfl, rfl, hv, hj, hp, hd, hbuf, hBr⟩ := hrel
    have HP : Hid (v < 10 ^ j) := hp
    have HD : Hid (dd v ++ L = dd u) := hd
    clear hp hd
    by_cases hz : 0 < v
    · obtain ⟨i, rfl⟩ : ∃ i, j = i + 1 := ⟨j - 1, by have := pow_pos_of HP.out hz; omega⟩
      have hP := pow_step HP.out
      have hnew := hbuf.push (UInt8.ofNat (48 + v % 10))
      obtain ⟨V, hV, hl, hc⟩ := hbuf
      have c1 := hV.cell (i + 4) (by omega)
      have f1 := hV.free (i + 4)
      have hB2 := hBr.setCell (p := ⟨w.heap.size, i + 4, none⟩) (Nat.le_refl _) (.int .u8 ((UInt8.ofNat (48 + v % 10)).toNat : Int))
      rw [digit_byte] at hnew hB2
      have HN := show Hid _ from hnew
      have HB2 := show Hid _ from hB2
      have HPP := show Hid _ from hP
      clear hV hc hBr hnew hB2 hP
      rw [show (((i + 1 + 4 : Nat)) : Int) = (i : Int) + 5 from by omega]
      go_wp2
      go_roundw
      case rel => exact ⟨v / 10, i, UInt8.ofNat (48 + v % 10) :: L, by go_num, by go_num, by omega, by omega, HPP.out, by rw [← HD.out, dd_step hz]; simp, HN.out, HB2.out⟩
      case measure => simp [intOf]; omega
    · obtain rfl : v = 0 := by omega
      obtain rfl : L = dd u := by simpa [dd] using HD.out
      have hlt : j + 4 + (dd u).length = 24 := by obtain ⟨_, _, h, _⟩ := hbuf; exact h
      have hj3 : j + 3 < 24 := by omega
      have hb2 := hbuf.push (i := j + 3) 45
      have hcv := run_text hb2
      obtain ⟨V, hV, hl, hc⟩ := hbuf
      have c1 := hV.cell (j + 3) (by omega)
      have f1 := hV.free (j + 3)
      have hB2 := hBr.setCell (p := ⟨w.heap.size, j + 3, none⟩) (Nat.le_refl _) (.int .u8 45)
      have HB2 := show Hid _ from hB2
      have hsl := fun W => run_tail w.heap.size (j + 3) ((j : Int) + 4 - 1) (by omega) hj3 W
      rw [show (((45 : UInt8).toNat : Nat) : Int) = 45 from rfl] at hcv
      rw [show 24 - (j + 3) = 21 - j from by omega] at hcv
      clear hV hc hBr HP HD hl hb2 hB2 hlt
      go_upto_region 17 with fail
      go_wp2_with fail
      go_ret
      exact ⟨by rw [HK.out]; rfl, HB2.out⟩
set_option maxRecDepth 100000 in
theorem zzitoa_pos (k : Int) (w : World) (h0 : -9223372036854775808 ≤ k) (h2 : k ≤ 9223372036854775807) (h1 : 0 < k) :
    Calls Tryf.prog 8 #[.int .i64 k] w fun e w' => e = .returned (.string ⟨(Lib.itoa k).toArray⟩) ∧ Below w.heap.size w w' := by
  obtain ⟨u, hu, hu1, hu2⟩ : ∃ u : Nat, k = (u : Int) ∧ 0 < u ∧ u ≤ 9223372036854775808 := ⟨k.natAbs, by omega, by omega, by omega⟩
  have HK : Hid (Lib.itoa k = dd u) := by
    subst hu
    unfold Hid Lib.itoa
    rw [if_neg (by omega), Int.toNat_natCast, dd_pos (by omega)]
  have HKK : Hid (k = (u : Int)) := hu
  have hk1 : (k == 0) = false := beq_eq_false_iff_ne.2 (by omega)
  clear hu
  go_enter Tryf.func8, Tryf.ntmps8
  go_wp2
  go_loopw [4, 6] (fun s i wr => Rel u w.heap.size w s i wr) (fun s _ _ => (intOf s).toNat)
  case atStart =>
    refine ⟨u, 20, [], by rw [HKK.out], rfl, by omega, Nat.le_refl _, pow20 hu2, by simp, buf_new w 45, (Below.refl _ _).alloc (Nat.le_refl _) _⟩
  case round =>
    obtain ⟨v, j, L, rfl, rfl, hv, hj, hp, hd, hbuf, hBr⟩ := hrel
    have HP : Hid (v < 10 ^ j) := hp
    have HD : Hid (dd v ++ L = dd u) := hd
    clear hp hd
    by_cases hz : 0 < v
    · obtain ⟨i, rfl⟩ : ∃ i, j = i + 1 := ⟨j - 1, by have := pow_pos_of HP.out hz; omega⟩
      have hP := pow_step HP.out
      have hnew := hbuf.push (UInt8.ofNat (48 + v % 10))
      obtain ⟨V, hV, hl, hc⟩ := hbuf
      have c1 := hV.cell (i + 4) (by omega)
      have f1 := hV.free (i + 4)
      have hB2 := hBr.setCell (p := ⟨w.heap.size, i + 4, none⟩) (Nat.le_refl _) (.int .u8 ((UInt8.ofNat (48 + v % 10)).toNat : Int))
      rw [digit_byte] at hnew hB2
      have HN := show Hid _ from hnew
      have HB2 := show Hid _ from hB2
      have HPP := show Hid _ from hP
      clear hV hc hBr hnew hB2 hP
      rw [show (((i + 1 + 4 : Nat)) : Int) = (i : Int) + 5 from by omega]
      go_wp2
      go_roundw
      case rel => exact ⟨v / 10, i, UInt8.ofNat (48 + v % 10) :: L, by go_num, by go_num, by omega, by omega, HPP.out, by rw [← HD.out, dd_step hz]; simp, HN.out, HB2.out⟩
      case measure => simp [intOf]; omega
    · obtain rfl : v = 0 := by omega
      obtain rfl : L = dd u := by simpa [dd] using HD.out
      have hlt : j + 4 + (dd u).length = 24 := by obtain ⟨_, _, h, _⟩ := hbuf; exact h
      have hne : 0 < (dd u).length := by rw [dd_step hu1]; simp
      have hcv := run_text hbuf
      have HB2 := show Hid _ from hBr
      have hsl := fun W => run_tail w.heap.size (j + 4) ((j : Int) + 4) (by omega) (by omega) W
      rw [show 24 - (j + 4) = 20 - j from by omega] at hcv
      clear hBr HP HD hbuf hlt hne
      go_wp2_with fail
      go_ret
      exact ⟨by rw [HK.out]; rfl, HB2.out⟩
/-- 'zzItoa' at a number that is not 0. -/
theorem zzitoa_any (k : Int) (w : World) (h0 : -9223372036854775808 ≤ k) (h2 : k ≤ 9223372036854775807) (h1 : k ≠ 0) :
    Calls Tryf.prog 8 #[.int .i64 k] w fun e w' => e = .returned (.string ⟨(Lib.itoa k).toArray⟩) ∧ Below w.heap.size w w' := by
  by_cases h : k < 0
  · exact zzitoa_neg k w h0 h2 h
  · exact zzitoa_pos k w h0 h2 (by omega)
end Go.Proofs.Qxb6616338aFmt
