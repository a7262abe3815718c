/-
  The walk of FnCountSettingTextSetRoundTrip.
-/
import Derived.Test.Qxb6616338aFmtSet
import Derived.Laws.StructEq
import Derived.Lib.ItoaLen
namespace Go.Proofs.Qxb6616338aFmt
open Go.RowKit Plain Go.Extern.Stop Go.Stop Go.Extern

set_option maxHeartbeats 1600000 in
set_option maxRecDepth 100000 in
theorem main_pos (name what usage mw : ByteArray) (k m kp kd km ky wo ym : Int) (w : World) (h0 : name.size ≤ maxLen) (h1 : what.size ≤ maxLen) (h2 : usage.size ≤ maxLen) (h3 : mw.size ≤ maxLen)
    (k0 : -9223372036854775808 ≤ k) (k1 : k ≤ 9223372036854775807) (ht : Hid (Tab w)) (hk : 1 ≤ k) :
    Calls Tryf.prog 3 #[.string name, .string what, .string usage, .int .i64 k, .int .i64 m, .int .i64 kp, .int .i64 kd, .int .i64 km, .int .i64 ky, .string mw, .int .u8 wo, .int .i64 ym] w fun e w' => e = .returned (.bool true) ∧ Below w.heap.size w w' := by
  have H0 := show Hid _ from h0
  have H1 := show Hid _ from h1
  have H2 := show Hid _ from h2
  have H3 := show Hid _ from h3
  unfold maxLen at h0 h1 h2 h3
  go_enter Tryf.func3, Tryf.ntmps3
  go_wp2_with fail
  refine (bytes_any name what usage mw k m kp kd km ky wo ym w H0.out H1.out H2.out H3.out).mono ?_
  rintro e w' ⟨⟨b, rfl, _⟩, rfl⟩
  cases b with
  | false =>
    go_wp2_with fail
    go_ret
    exact ⟨rfl, Below.refl _ _⟩
  | true =>
    by_cases t0 : name.size ≤ 262144
    case neg =>
      go_wp2_with fail
      go_ret
      exact ⟨rfl, Below.refl _ _⟩
    by_cases t1 : what.size ≤ 262144
    case neg =>
      go_wp2_with fail
      go_ret
      exact ⟨rfl, Below.refl _ _⟩
    by_cases t2 : usage.size ≤ 262144
    case neg =>
      go_wp2_with fail
      go_ret
      exact ⟨rfl, Below.refl _ _⟩
    by_cases t3 : mw.size ≤ 262144
    case neg =>
      go_wp2_with fail
      go_ret
      exact ⟨rfl, Below.refl _ _⟩
    clear H0 H1 H2 H3 h0 h1 h2 h3
    go_wp2_with fail
    refine (plain_any name what usage w').mono ?_
    rintro e w1 ⟨rfl, hB1⟩
    go_wp2_with fail
    refine (policy_any ⟨#[]⟩ kp kd 0 k wo km mw ky ym w1).mono ?_
    rintro e w2 ⟨rfl, hB2⟩
    have hB02 := hB1.trans (hB2.mono hB1.size)
    clear hB1 hB2
    go_wp2_with fail
    refine (stext_any name what usage ⟨#[]⟩ kp kd 0 k wo km mw ky ym k0 k1 _ ?_).mono ?_
    · exact tab_below ht (hB02.alloc hB02.size _)
    rintro e w3 ⟨rfl, hB3⟩
    have hB03 := (hB02.alloc hB02.size _).trans (hB3.mono (by have := hB02.size; simp; omega))
    clear hB02 hB3
    have hz := zzitoa_any k w3 k0 k1 (by omega)
    rw [show txt k = ⟨(Lib.itoa k).toArray⟩ from if_neg (by omega)]
    obtain ⟨T, hT⟩ : ∃ T : ByteArray, T = ⟨(Lib.itoa k).toArray⟩ := ⟨_, rfl⟩
    rw [← hT] at hz ⊢
    have HA : Hid (Lib.atoiAll T.data.toList = .ok k) := by unfold Hid; rw [hT]; exact atoi_itoa k k0 k1
    have hTs : T.size ≤ 1000 := by rw [hT]; have := Lib.itoa_length_le k k0 k1; simp [ByteArray.size]; omega
    clear hT
    go_wp2_with fail
    refine hz.mono ?_
    rintro e w4 ⟨rfl, hB4⟩
    have hB04 := hB03.trans (hB4.mono hB03.size)
    clear hB03 hB4 hz
    go_wp2_with fail
    refine (policy_any ⟨#[]⟩ kp kd 0 m wo km mw ky ym w4).mono ?_
    rintro e w5 ⟨rfl, hB5⟩
    have hB05 := hB04.trans (hB5.mono hB04.size)
    clear hB04 hB5
    go_wp2_with fail
    have p1 := (Pol.new w5 30 ⟨#[]⟩ kp kd 0 m wo km mw ky ym)
    have p2 := Pol.new (w5.alloc (.cells #[.string ⟨#[]⟩, .int .i64 kp, .int .i64 kd, .int .u8 0, .int .i64 m, .int .u8 wo, .int .i64 km, .string mw, .int .i64 ky, .int .i64 ym] 30)) 30 ⟨#[]⟩ kp kd 0 k wo km mw ky ym
    have p3 := p1.keep (Below.heap_alloc _ (.cells #[.string ⟨#[]⟩, .int .i64 kp, .int .i64 kd, .int .u8 0, .int .i64 k, .int .u8 wo, .int .i64 km, .string mw, .int .i64 ky, .int .i64 ym] 30) _ p1.lt)
    rw [World.size_alloc] at p2
    refine (zset_ok w5.heap.size name T what usage k ⟨#[]⟩ kp kd 0 m wo km mw ky ym _ hTs hk HA p3 ?_).mono ?_
    · rw [World.frozen?_alloc_past _ _ _ (by simp)]; exact World.frozen?_alloc_new w5 _ _ 4
    rintro e w7 ⟨rfl, hT7, hP7⟩
    have hQ7 := p2.touch hT7 (by omega)
    have hB07 : Below w'.heap.size w' w7 := ((hB05.alloc hB05.size _).alloc (by have := hB05.size; simp; omega) _).trans (hT7.below (by have := hB05.size; simp; omega) (fun x hx => by subst hx; exact hB05.size))
    obtain ⟨d0, d1, d2, d3, d4, d5, d6, d7, d8, d9⟩ := hP7
    obtain ⟨e0, e1, e2, e3, e4, e5, e6, e7, e8, e9⟩ := hQ7
    clear p1 p2 p3 hT7 hB05
    go_wp2_with fail
    go_ret
    exact ⟨rfl, hB07⟩
set_option maxHeartbeats 1600000 in
set_option maxRecDepth 100000 in
theorem main_neg (F : Interp) (name what usage mw : ByteArray) (k m kp kd km ky wo ym : Int) (w : World) (h0 : name.size ≤ maxLen) (h1 : what.size ≤ maxLen) (h2 : usage.size ≤ maxLen) (h3 : mw.size ≤ maxLen)
    (k0 : -9223372036854775808 ≤ k) (k1 : k ≤ 9223372036854775807) (ht : Hid (Tab w)) (tp : TypeId) (p : Value) (hF : Hid (F.answers w.tape)) (hS : Hid (Sx w tp p)) (hg : 0 < w.heap.size) (hk : k < 0) :
    Calls Tryf.prog 3 #[.string name, .string what, .string usage, .int .i64 k, .int .i64 m, .int .i64 kp, .int .i64 kd, .int .i64 km, .int .i64 ky, .string mw, .int .u8 wo, .int .i64 ym] w fun e w' => e = .returned (.bool true) ∧ Below w.heap.size w w' := by
  have H0 := show Hid _ from h0
  have H1 := show Hid _ from h1
  have H2 := show Hid _ from h2
  have H3 := show Hid _ from h3
  unfold maxLen at h0 h1 h2 h3
  go_enter Tryf.func3, Tryf.ntmps3
  go_wp2_with fail
  refine (bytes_any name what usage mw k m kp kd km ky wo ym w H0.out H1.out H2.out H3.out).mono ?_
  rintro e w' ⟨⟨b, rfl, _⟩, rfl⟩
  cases b with
  | false =>
    go_wp2_with fail
    go_ret
    exact ⟨rfl, Below.refl _ _⟩
  | true =>
    by_cases t0 : name.size ≤ 262144
    case neg =>
      go_wp2_with fail
      go_ret
      exact ⟨rfl, Below.refl _ _⟩
    by_cases t1 : what.size ≤ 262144
    case neg =>
      go_wp2_with fail
      go_ret
      exact ⟨rfl, Below.refl _ _⟩
    by_cases t2 : usage.size ≤ 262144
    case neg =>
      go_wp2_with fail
      go_ret
      exact ⟨rfl, Below.refl _ _⟩
    by_cases t3 : mw.size ≤ 262144
    case neg =>
      go_wp2_with fail
      go_ret
      exact ⟨rfl, Below.refl _ _⟩
    clear H0 H1 H2 H3 h0 h1 h2 h3
    go_wp2_with fail
    refine (plain_any name what usage w').mono ?_
    rintro e w1 ⟨rfl, hB1⟩
    go_wp2_with fail
    refine (policy_any ⟨#[]⟩ kp kd 0 k wo km mw ky ym w1).mono ?_
    rintro e w2 ⟨rfl, hB2⟩
    have hB02 := hB1.trans (hB2.mono hB1.size)
    clear hB1 hB2
    go_wp2_with fail
    refine (stext_any name what usage ⟨#[]⟩ kp kd 0 k wo km mw ky ym k0 k1 _ ?_).mono ?_
    · exact tab_below ht (hB02.alloc hB02.size _)
    rintro e w3 ⟨rfl, hB3⟩
    have hB03 := (hB02.alloc hB02.size _).trans (hB3.mono (by have := hB02.size; simp; omega))
    clear hB02 hB3
    have hz := zzitoa_any k w3 k0 k1 (by omega)
    rw [show txt k = ⟨(Lib.itoa k).toArray⟩ from if_neg (by omega)]
    obtain ⟨T, hT⟩ : ∃ T : ByteArray, T = ⟨(Lib.itoa k).toArray⟩ := ⟨_, rfl⟩
    rw [← hT] at hz ⊢
    have HA : Hid (Lib.atoiAll T.data.toList = .ok k) := by unfold Hid; rw [hT]; exact atoi_itoa k k0 k1
    have hTs : T.size ≤ 1000 := by rw [hT]; have := Lib.itoa_length_le k k0 k1; simp [ByteArray.size]; omega
    have HR : Refuses F T what tp p := fun W hFW _ => parse_low F T what hTs k HA.out (by omega) W hFW
    clear hT
    go_wp2_with fail
    refine hz.mono ?_
    rintro e w4 ⟨rfl, hB4⟩
    have hB04 := hB03.trans (hB4.mono hB03.size)
    clear hB03 hB4 hz
    go_wp2_with fail
    refine (policy_any ⟨#[]⟩ kp kd 0 m wo km mw ky ym w4).mono ?_
    rintro e w5 ⟨rfl, hB5⟩
    have hB05 := hB04.trans (hB5.mono hB04.size)
    clear hB04 hB5
    go_wp2_with fail
    have p1 := (Pol.new w5 30 ⟨#[]⟩ kp kd 0 m wo km mw ky ym)
    have p2 := Pol.new (w5.alloc (.cells #[.string ⟨#[]⟩, .int .i64 kp, .int .i64 kd, .int .u8 0, .int .i64 m, .int .u8 wo, .int .i64 km, .string mw, .int .i64 ky, .int .i64 ym] 30)) 30 ⟨#[]⟩ kp kd 0 0 wo km mw ky ym
    have p3 := p1.keep (Below.heap_alloc _ (.cells #[.string ⟨#[]⟩, .int .i64 kp, .int .i64 kd, .int .u8 0, .int .i64 0, .int .u8 wo, .int .i64 km, .string mw, .int .i64 ky, .int .i64 ym] 30) _ p1.lt)
    rw [World.size_alloc] at p2
    refine (zset_bad F w5.heap.size name T what usage tp p ⟨#[]⟩ kp kd 0 m wo km mw ky ym _ HR ?_ ?_ p3 ?_).mono ?_
    · show Hid (F.answers w5.tape); unfold Hid; rw [hB05.tape]; exact hF.out
    · exact sx_below hS ((hB05.alloc hB05.size _).alloc (by have := hB05.size; simp; omega) _) hg
    · rw [World.frozen?_alloc_past _ _ _ (by simp)]; exact World.frozen?_alloc_new w5 _ _ 4
    rintro e w7 ⟨N, rfl, hT7, hP7⟩
    have hQ7 := p2.touch hT7 (by omega)
    have hB07 : Below w'.heap.size w' w7 := ((hB05.alloc hB05.size _).alloc (by have := hB05.size; simp; omega) _).trans (hT7.below (by have := hB05.size; simp; omega) (fun x hx => by subst hx; exact hB05.size))
    obtain ⟨d0, d1, d2, d3, d4, d5, d6, d7, d8, d9⟩ := hP7
    obtain ⟨e0, e1, e2, e3, e4, e5, e6, e7, e8, e9⟩ := hQ7
    clear p1 p2 p3 hT7 hB05
    go_wp2_with fail
    go_ret
    exact ⟨by show Ending.returned (.bool (!decide (1 ≤ k))) = _; rw [decide_eq_false (by omega)]; rfl, hB07⟩
set_option maxHeartbeats 1600000 in
set_option maxRecDepth 100000 in
theorem main_zero (F : Interp) (name what usage mw : ByteArray) (m kp kd km ky wo ym : Int) (w : World) (h0 : name.size ≤ maxLen) (h1 : what.size ≤ maxLen) (h2 : usage.size ≤ maxLen) (h3 : mw.size ≤ maxLen)
    (ht : Hid (Tab w)) (tp : TypeId) (p : Value) (hF : Hid (F.answers w.tape)) (hS : Hid (Sx w tp p)) (hg : 0 < w.heap.size) :
    Calls Tryf.prog 3 #[.string name, .string what, .string usage, .int .i64 0, .int .i64 m, .int .i64 kp, .int .i64 kd, .int .i64 km, .int .i64 ky, .string mw, .int .u8 wo, .int .i64 ym] w fun e w' => e = .returned (.bool true) ∧ Below w.heap.size w w' := by
  have H0 := show Hid _ from h0
  have H1 := show Hid _ from h1
  have H2 := show Hid _ from h2
  have H3 := show Hid _ from h3
  unfold maxLen at h0 h1 h2 h3
  go_enter Tryf.func3, Tryf.ntmps3
  go_wp2_with fail
  refine (bytes_any name what usage mw 0 m kp kd km ky wo ym w H0.out H1.out H2.out H3.out).mono ?_
  rintro e w' ⟨⟨b, rfl, _⟩, rfl⟩
  cases b with
  | false =>
    go_wp2_with fail
    go_ret
    exact ⟨rfl, Below.refl _ _⟩
  | true =>
    by_cases t0 : name.size ≤ 262144
    case neg =>
      go_wp2_with fail
      go_ret
      exact ⟨rfl, Below.refl _ _⟩
    by_cases t1 : what.size ≤ 262144
    case neg =>
      go_wp2_with fail
      go_ret
      exact ⟨rfl, Below.refl _ _⟩
    by_cases t2 : usage.size ≤ 262144
    case neg =>
      go_wp2_with fail
      go_ret
      exact ⟨rfl, Below.refl _ _⟩
    by_cases t3 : mw.size ≤ 262144
    case neg =>
      go_wp2_with fail
      go_ret
      exact ⟨rfl, Below.refl _ _⟩
    clear H0 H1 H2 H3 h0 h1 h2 h3
    go_wp2_with fail
    refine (plain_any name what usage w').mono ?_
    rintro e w1 ⟨rfl, hB1⟩
    go_wp2_with fail
    refine (policy_any ⟨#[]⟩ kp kd 0 0 wo km mw ky ym w1).mono ?_
    rintro e w2 ⟨rfl, hB2⟩
    have hB02 := hB1.trans (hB2.mono hB1.size)
    clear hB1 hB2
    go_wp2_with fail
    refine (stext_any name what usage ⟨#[]⟩ kp kd 0 0 wo km mw ky ym (by omega) (by omega) _ ?_).mono ?_
    · exact tab_below ht (hB02.alloc hB02.size _)
    rintro e w3 ⟨rfl, hB3⟩
    have hB03 := (hB02.alloc hB02.size _).trans (hB3.mono (by have := hB02.size; simp; omega))
    clear hB02 hB3
    have HR : Refuses F ⟨#[]⟩ what tp p := fun W hFW hSW => parse_empty F what tp p W hFW hSW
    rw [show txt 0 = ⟨#[]⟩ from rfl]
    go_wp2_with fail
    refine (policy_any ⟨#[]⟩ kp kd 0 m wo km mw ky ym w3).mono ?_
    rintro e w5 ⟨rfl, hB5⟩
    have hB05 := hB03.trans (hB5.mono hB03.size)
    clear hB03 hB5
    go_wp2_with fail
    have p1 := (Pol.new w5 30 ⟨#[]⟩ kp kd 0 m wo km mw ky ym)
    have p2 := Pol.new (w5.alloc (.cells #[.string ⟨#[]⟩, .int .i64 kp, .int .i64 kd, .int .u8 0, .int .i64 m, .int .u8 wo, .int .i64 km, .string mw, .int .i64 ky, .int .i64 ym] 30)) 30 ⟨#[]⟩ kp kd 0 0 wo km mw ky ym
    have p3 := p1.keep (Below.heap_alloc _ (.cells #[.string ⟨#[]⟩, .int .i64 kp, .int .i64 kd, .int .u8 0, .int .i64 0, .int .u8 wo, .int .i64 km, .string mw, .int .i64 ky, .int .i64 ym] 30) _ p1.lt)
    rw [World.size_alloc] at p2
    refine (zset_bad F w5.heap.size name ⟨#[]⟩ what usage tp p ⟨#[]⟩ kp kd 0 m wo km mw ky ym _ HR ?_ ?_ p3 ?_).mono ?_
    · show Hid (F.answers w5.tape); unfold Hid; rw [hB05.tape]; exact hF.out
    · exact sx_below hS ((hB05.alloc hB05.size _).alloc (by have := hB05.size; simp; omega) _) hg
    · rw [World.frozen?_alloc_past _ _ _ (by simp)]; exact World.frozen?_alloc_new w5 _ _ 4
    rintro e w7 ⟨N, rfl, hT7, hP7⟩
    have hQ7 := p2.touch hT7 (by omega)
    have hB07 : Below w'.heap.size w' w7 := ((hB05.alloc hB05.size _).alloc (by have := hB05.size; simp; omega) _).trans (hT7.below (by have := hB05.size; simp; omega) (fun x hx => by subst hx; exact hB05.size))
    obtain ⟨d0, d1, d2, d3, d4, d5, d6, d7, d8, d9⟩ := hP7
    obtain ⟨e0, e1, e2, e3, e4, e5, e6, e7, e8, e9⟩ := hQ7
    clear p1 p2 p3 hT7 hB05
    go_wp2_with fail
    go_ret
    exact ⟨rfl, hB07⟩
/-- The law, at every count. -/
theorem main_any (F : Interp) (name what usage mw : ByteArray) (k m kp kd km ky wo ym : Int) (w : World) (h0 : name.size ≤ maxLen) (h1 : what.size ≤ maxLen) (h2 : usage.size ≤ maxLen) (h3 : mw.size ≤ maxLen)
    (k0 : -9223372036854775808 ≤ k) (k1 : k ≤ 9223372036854775807) (ht : Tab w) (tp : TypeId) (p : Value) (hF : F.answers w.tape) (hS : Sx w tp p) (hg : 0 < w.heap.size) :
    Calls Tryf.prog 3 #[.string name, .string what, .string usage, .int .i64 k, .int .i64 m, .int .i64 kp, .int .i64 kd, .int .i64 km, .int .i64 ky, .string mw, .int .u8 wo, .int .i64 ym] w fun e w' => e = .returned (.bool true) ∧ Below w.heap.size w w' := by
  by_cases c1 : 1 ≤ k
  · exact main_pos name what usage mw k m kp kd km ky wo ym w h0 h1 h2 h3 k0 k1 ht c1
  · by_cases c2 : k = 0
    · subst c2
      exact main_zero F name what usage mw m kp kd km ky wo ym w h0 h1 h2 h3 ht tp p hF hS hg
    · exact main_neg F name what usage mw k m kp kd km ky wo ym w h0 h1 h2 h3 k0 k1 ht tp p hF hS hg (by omega)
end Go.Proofs.Qxb6616338aFmt
