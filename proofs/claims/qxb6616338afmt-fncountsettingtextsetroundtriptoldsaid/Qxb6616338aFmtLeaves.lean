/-
  The walks of the leaves on the road of FnCountSettingTextSetRoundTrip.
-/
import Derived.Test.Qxb6616338aFmtFacts
import Derived.Test.Qxb6616338aFmtShelf
import Derived.Test.Qxb6616338aFmtItoa
import Derived.Lib.SmallJoins
import Derived.RegionTactic
import Derived.BigRegion
import Derived.Deep.QuietTactic
import Derived.BigQuiet
import Derived.Deep.RegionWith
import Derived.WalkSmall
import Derived.Laws.EntriesVeiled
namespace Go.Proofs.Qxb6616338aFmt
open Go.RowKit Plain Go.Extern.Stop Go.Stop Go.Extern

attribute [local go_sem] fcall fguard ffmt ffmtr fop_q fop_s fptr felem

/-- 'strconv.Itoa'. -/
theorem itoa_any (n : Int) (h0 : -9223372036854775808 ≤ n) (h1 : n ≤ 9223372036854775807) (w : World) (htab : Lib.TabIs Tryf.prog w "internal/strconv.uint64pow10" .u64 Lib.pow10Tab) :
    Calls Tryf.prog 18 #[.int .i64 n] w fun e w' => e = .returned (.string ⟨(Lib.itoa n).toArray⟩) ∧ Below w.heap.size w w' := by
  refine (Any.strconv_Itoa Tryf.laysM171 n h0 h1 w htab).mono ?_
  rintro e w' ⟨rfl, k, os, rfl⟩
  exact ⟨rfl, rfl, rfl, rfl, by simp [Sort.grow, World.drewN], fun i hi => by simp [Sort.grow, World.drewN, Array.getElem?_append_left hi]⟩
/-- 'strconv.Atoi' at a numeral. -/
theorem atoi_ok (s : ByteArray) (hs : s.size ≤ 1000) (v : Int) (h : Lib.atoiAll s.data.toList = .ok v) (w : World) :
    Calls Tryf.prog 16 #[.string s] w fun e w' => e = .returned (.tuple #[.int .i64 v, .nilIface]) ∧ Below w.heap.size w w' := by
  refine (Any.strconv_Atoi_ok Tryf.laysC172 s (by omega) v h w).mono ?_
  rintro e w' ⟨rfl, rfl | ⟨t, rfl⟩⟩
  · exact ⟨rfl, Below.refl _ _⟩
  · exact ⟨rfl, Lib.bytesWorld_below w 5 t⟩
/-- 'strconv.Atoi' at the empty string. -/
theorem atoi_empty (tp : TypeId) (p : Value) (w : World) (hvar : w.var? Tryf.prog "strconv.ErrSyntax" = some #[.iface tp p]) :
    Calls Tryf.prog 16 #[.string ⟨#[]⟩] w fun e w' => ∃ N, e = .returned (.tuple #[.int .i64 0, .iface 59 (.pointer (some ⟨N, 0, none⟩))]) ∧ Below w.heap.size w w' := by
  refine (Any.strconv_Atoi_syntax_var Tryf.laysC172 ⟨#[]⟩ (by decide) rfl tp p w hvar).mono ?_
  rintro e w' ⟨N, rfl, _, _, hb⟩
  exact ⟨N, rfl, hb⟩

/-- 'parseCount' at a numeral of 1 or more. -/
theorem parse_ok (s what : ByteArray) (hs : s.size ≤ 1000) (v : Int) (h : Lib.atoiAll s.data.toList = .ok v) (hv : 1 ≤ v) (w : World) :
    Calls Tryf.prog 13 #[.string s, .string what] w fun e w' => e = .returned (.tuple #[.int .i64 v, .nilIface]) ∧ Below w.heap.size w w' := by
  have HH := show Hid _ from h
  clear h
  go_enter Tryf.func13, Tryf.ntmps13
  go_wp2_with fail
  refine (atoi_ok s hs v HH.out w).mono ?_
  rintro e w' ⟨rfl, hb⟩
  go_wp2_with fail
  go_ret2
  exact ⟨rfl, hb⟩

/-- 'fmt.Errorf' with the one format of this road: some error. -/
theorem errorf_any (F : Interp) (s what : ByteArray) (g : Nat) (w : World) (hF : F.answers w.tape) (c0 : w.cell? ⟨g, 0, none⟩ = some (.iface 9 (.string s))) (c1 : w.cell? ⟨g, 1, none⟩ = some (.iface 9 (.string what))) :
    Calls Tryf.prog 17 #[.string ⟨#[37, 113, 32, 105, 115, 32, 110, 111, 116, 32, 97, 32, 110, 117, 109, 98, 101, 114, 32, 111, 102, 32, 37, 115, 44, 32, 49, 32, 111, 114, 32, 109, 111, 114, 101]⟩, .slice (some ⟨g, 0, none⟩) 2 2] w fun e w' => ∃ N, e = .returned (.iface 62 (.pointer (some ⟨N, 0, none⟩))) ∧ Below w.heap.size w w' := by
  have hF' : ∀ i name reading k range, w.tape i (.extern (word name reading k) range) = F name reading k := hF
  go_enter Tryf.func17, Tryf.ntmps17
  go_wp2
  go_ret
  exact ⟨_, rfl, ((Below.refl _ _).alloc (Nat.le_refl _) _).drew⟩

/-- 'parseCount' at a numeral below 1. -/
theorem parse_low (F : Interp) (s what : ByteArray) (hs : s.size ≤ 1000) (v : Int) (h : Lib.atoiAll s.data.toList = .ok v) (hv : v < 1) (w : World) (hF : F.answers w.tape) :
    Calls Tryf.prog 13 #[.string s, .string what] w fun e w' => ∃ N, e = .returned (.tuple #[.int .i64 0, .iface 62 (.pointer (some ⟨N, 0, none⟩))]) ∧ Below w.heap.size w w' := by
  have HH := show Hid _ from h
  clear h
  go_enter Tryf.func13, Tryf.ntmps13
  go_wp2_with fail
  refine (atoi_ok s hs v HH.out w).mono ?_
  rintro e w1 ⟨rfl, hb⟩
  have hF1 : F.answers w1.tape := by rw [hb.tape]; exact hF
  go_wp2_with fail
  refine (errorf_any F s what w1.heap.size _ ?_ ?_ ?_).mono ?_
  · exact hF1
  · simp [World.cell?_alloc_at]
  · simp [World.cell?_alloc_at]
  rintro e w2 ⟨N, rfl, hb2⟩
  have hB2 : Below w.heap.size w w2 := (hb.alloc hb.size _).trans (hb2.mono (by have := hb.size; simp; omega))
  clear hb hb2
  go_wp2_with fail
  go_ret2
  exact ⟨N, rfl, hB2⟩
/-- 'parseCount' at the empty string. -/
theorem parse_empty (F : Interp) (what : ByteArray) (tp : TypeId) (p : Value) (w : World) (hF : F.answers w.tape) (hvar : w.var? Tryf.prog "strconv.ErrSyntax" = some #[.iface tp p]) :
    Calls Tryf.prog 13 #[.string ⟨#[]⟩, .string what] w fun e w' => ∃ N, e = .returned (.tuple #[.int .i64 0, .iface 62 (.pointer (some ⟨N, 0, none⟩))]) ∧ Below w.heap.size w w' := by
  have HH := show Hid _ from hvar
  clear hvar
  go_enter Tryf.func13, Tryf.ntmps13
  go_wp2_with fail
  refine (atoi_empty tp p w HH.out).mono ?_
  rintro e w1 ⟨M, rfl, hb⟩
  have hF1 : F.answers w1.tape := by rw [hb.tape]; exact hF
  go_wp2_with fail
  refine (errorf_any F ⟨#[]⟩ what w1.heap.size _ ?_ ?_ ?_).mono ?_
  · exact hF1
  · simp [World.cell?_alloc_at]
  · simp [World.cell?_alloc_at]
  rintro e w2 ⟨N, rfl, hb2⟩
  have hB2 : Below w.heap.size w w2 := (hb.alloc hb.size _).trans (hb2.mono (by have := hb.size; simp; omega))
  clear hb hb2
  go_wp2_with fail
  go_ret2
  exact ⟨N, rfl, hB2⟩

/-- 'countSetting' with the one count function of this road. -/
theorem setting_any (name what usage : ByteArray) (w : World) :
    Calls Tryf.prog 10 #[.string name, .string what, .func (.func 11) #[] #[], .string usage] w fun e w' =>
      e = .returned (.agg #[.string name, .string usage, .string ⟨#[]⟩, .func (.func 12) #[] #[.pointer (some ⟨w.heap.size, 0, none⟩), .pointer (some ⟨w.heap.size + 1, 0, none⟩)], .func (.func 14) #[] #[.pointer (some ⟨w.heap.size + 1, 0, none⟩)]]) ∧
      Below w.heap.size w w' ∧ w'.cell? ⟨w.heap.size, 0, none⟩ = some (.string what) ∧ w'.cell? ⟨w.heap.size + 1, 0, none⟩ = some (.func (.func 11) #[] #[]) := by
  go_enter Tryf.func10, Tryf.ntmps10
  go_wp2
  refine bodyPost_ret (v := .agg #[.string name, .string usage, .string ⟨#[]⟩, .func (.func 12) #[] #[.pointer (some ⟨w.heap.size, 0, none⟩), .pointer (some ⟨w.heap.size + 1, 0, none⟩)], .func (.func 14) #[] #[.pointer (some ⟨w.heap.size + 1, 0, none⟩)]]) (by simp [results, Tryf.results10, go_sem]) rfl ⟨rfl, ?_, ?_, ?_⟩
  · exact (((Below.refl _ _).alloc (Nat.le_refl _) _).alloc (by simp) _).alloc (by simp; omega) _
  · rw [World.cell?_alloc_past _ _ _ (by simp; omega), World.cell?_alloc_past _ _ _ (by simp)]
    simp [World.cell?_alloc_at]
  · rw [World.cell?_alloc_past _ _ _ (by simp)]
    simp [World.cell?_alloc_at]

/-- 'ZZcountSettingPlain'. -/
theorem plain_any (name what usage : ByteArray) (w : World) :
    Calls Tryf.prog 5 #[.string name, .string what, .string usage] w fun e w' => e = .returned (.tuple #[.string name, .string usage, .string ⟨#[]⟩]) ∧ Below w.heap.size w w' := by
  go_enter Tryf.func5, Tryf.ntmps5
  go_wp2_with fail
  refine (setting_any name what usage w).mono ?_
  rintro e w1 ⟨rfl, hB, _, _⟩
  go_wp2_with fail
  go_region
  all_goals
    go_wp2_with fail
    go_ret3
    exact ⟨rfl, (hB.alloc hB.size _).drew⟩

/-- 'ZZnewPolicy'. -/
theorem policy_any (a0 : ByteArray) (a1 a2 a3 a4 a5 a6 : Int) (a7 : ByteArray) (a8 a9 : Int) (w : World) :
    Calls Tryf.prog 6 #[.string a0, .int .i64 a1, .int .i64 a2, .int .u8 a3, .int .i64 a4, .int .u8 a5, .int .i64 a6, .string a7, .int .i64 a8, .int .i64 a9] w fun e w' =>
      e = .returned (.agg #[.string a0, .int .i64 a1, .int .i64 a2, .int .u8 a3, .int .i64 a4, .int .u8 a5, .int .i64 a6, .string a7, .int .i64 a8, .int .i64 a9]) ∧ Below w.heap.size w w' := by
  go_enter Tryf.func6, Tryf.ntmps6
  go_wp2
  refine bodyPost_ret (v := .agg #[.string a0, .int .i64 a1, .int .i64 a2, .int .u8 a3, .int .i64 a4, .int .u8 a5, .int .i64 a6, .string a7, .int .i64 a8, .int .i64 a9]) (by simp [results, Tryf.results6, go_sem]) rfl ⟨rfl, ?_⟩
  exact (Below.refl _ _).alloc (Nat.le_refl _) _

/-- The text of a count. -/
def txt (k : Int) : ByteArray := if k = 0 then ⟨#[]⟩ else ⟨(Lib.itoa k).toArray⟩
abbrev Tab (w : World) : Prop := Lib.TabIs Tryf.prog w "internal/strconv.uint64pow10" .u64 Lib.pow10Tab
abbrev Sx (w : World) (tp : TypeId) (p : Value) : Prop := w.var? Tryf.prog "strconv.ErrSyntax" = some #[.iface tp p]

/-- 'countText'. -/
theorem ctext_any (k : Int) (h0 : -9223372036854775808 ≤ k) (h1 : k ≤ 9223372036854775807) (w : World) (ht : Hid (Tab w)) :
    Calls Tryf.prog 15 #[.int .i64 k] w fun e w' => e = .returned (.string (txt k)) ∧ Below w.heap.size w w' := by
  by_cases h : k = 0
  · subst h
    go_enter Tryf.func15, Tryf.ntmps15
    go_wp2
    go_ret
    exact ⟨rfl, Below.refl _ _⟩
  · have hk : (k == 0) = false := beq_eq_false_iff_ne.2 h
    go_enter Tryf.func15, Tryf.ntmps15
    go_wp2_with fail
    refine (itoa_any k h0 h1 w ht.out).mono ?_
    rintro e w1 ⟨rfl, hB⟩
    go_wp2_with fail
    go_ret
    exact ⟨by unfold txt; rw [if_neg h]; rfl, hB⟩
/-- 'zzKeepWeeklyField'. -/
theorem field_any (b : Nat) (w : World) :
    Calls Tryf.prog 11 #[.pointer (some ⟨b, 0, none⟩)] w fun e w' => e = .returned (.pointer (some ⟨b, 4, none⟩)) ∧ w' = w := by
  go_enter Tryf.func11, Tryf.ntmps11
  go_wp2
  go_ret
  exact ⟨rfl, rfl⟩
theorem tab_below {w w' : World} (h : Hid (Tab w)) (hb : Below w.heap.size w w') : Hid (Tab w') :=
  Joins.tab_stays (g := 2) (by kernel_rfl) h.out hb (Nat.le_refl _)

/-- The closure 'text'. -/
theorem text_any (a0 : ByteArray) (a1 a2 a3 a4 a5 a6 : Int) (a7 : ByteArray) (a8 a9 : Int) (b : Nat) (h0 : -9223372036854775808 ≤ a4) (h1 : a4 ≤ 9223372036854775807) (w : World) (ht : Hid (Tab w)) (hc : w.cell? ⟨b, 0, none⟩ = some (.func (.func 11) #[] #[])) :
    Calls Tryf.prog 14 #[.agg #[.string a0, .int .i64 a1, .int .i64 a2, .int .u8 a3, .int .i64 a4, .int .u8 a5, .int .i64 a6, .string a7, .int .i64 a8, .int .i64 a9], .pointer (some ⟨b, 0, none⟩)] w fun e w' => e = .returned (.string (txt a4)) ∧ Below w.heap.size w w' := by
  have hb : b < w.heap.size := World.block_lt_of_cell? w _ hc
  go_enter Tryf.func14, Tryf.ntmps14
  go_wp2_with fail
  refine (field_any w.heap.size _).mono ?_
  rintro e w1 ⟨rfl, rfl⟩
  go_wp2_with fail
  refine (ctext_any a4 h0 h1 _ ?_).mono ?_
  · exact tab_below ht ((Below.refl _ _).alloc (Nat.le_refl _) _)
  rintro e w2 ⟨rfl, hB⟩
  have hB2 := ((Below.refl w.heap.size w).alloc (Nat.le_refl _) _).trans (hB.mono (by simp))
  go_wp2_with fail
  go_ret
  exact ⟨rfl, hB2⟩
end Go.Proofs.Qxb6616338aFmt
