/-
  The walks of the two closures' callers: the setting's text, the setting's set.
-/
import Derived.Test.Qxb6616338aFmtLeaves
namespace Go.Proofs.Qxb6616338aFmt
open Go.RowKit Plain Go.Extern.Stop Go.Stop Go.Extern

theorem fld3 (x0 x1 x2 : ByteArray) (c3 c4 : Array Value) (w : World) : (Instr.field 41 (.agg #[.string x0, .string x1, .string x2, .func (.func 12) #[] c3, .func (.func 14) #[] c4]) 3).run Tryf.prog w = .ok (.func (.func 12) #[] c3) w := by kernel_rfl
theorem fld4 (x0 x1 x2 : ByteArray) (c3 c4 : Array Value) (w : World) : (Instr.field 41 (.agg #[.string x0, .string x1, .string x2, .func (.func 12) #[] c3, .func (.func 14) #[] c4]) 4).run Tryf.prog w = .ok (.func (.func 14) #[] c4) w := by kernel_rfl

/-- The ten cells of a policy in block b. -/
def Pol (w : World) (b : Nat) (a0 : ByteArray) (a1 a2 a3 a4 a5 a6 : Int) (a7 : ByteArray) (a8 a9 : Int) : Prop :=
  w.cell? ⟨b, 0, none⟩ = some (.string a0) ∧ w.cell? ⟨b, 1, none⟩ = some (.int .i64 a1) ∧ w.cell? ⟨b, 2, none⟩ = some (.int .i64 a2) ∧ w.cell? ⟨b, 3, none⟩ = some (.int .u8 a3) ∧ w.cell? ⟨b, 4, none⟩ = some (.int .i64 a4) ∧
  w.cell? ⟨b, 5, none⟩ = some (.int .u8 a5) ∧ w.cell? ⟨b, 6, none⟩ = some (.int .i64 a6) ∧ w.cell? ⟨b, 7, none⟩ = some (.string a7) ∧ w.cell? ⟨b, 8, none⟩ = some (.int .i64 a8) ∧ w.cell? ⟨b, 9, none⟩ = some (.int .i64 a9)
theorem Pol.new (w : World) (T : TypeId) (a0 : ByteArray) (a1 a2 a3 a4 a5 a6 : Int) (a7 : ByteArray) (a8 a9 : Int) : Pol (w.alloc (.cells #[.string a0, .int .i64 a1, .int .i64 a2, .int .u8 a3, .int .i64 a4, .int .u8 a5, .int .i64 a6, .string a7, .int .i64 a8, .int .i64 a9] T)) w.heap.size a0 a1 a2 a3 a4 a5 a6 a7 a8 a9 := by
  refine ⟨?_, ?_, ?_, ?_, ?_, ?_, ?_, ?_, ?_, ?_⟩ <;> simp [World.cell?_alloc_at]
theorem Pol.keep {w w' : World} {b : Nat} {a0 : ByteArray} {a1 a2 a3 a4 a5 a6 : Int} {a7 : ByteArray} {a8 a9 : Int} (h : Pol w b a0 a1 a2 a3 a4 a5 a6 a7 a8 a9) (e : w'.heap[b]? = w.heap[b]?) : Pol w' b a0 a1 a2 a3 a4 a5 a6 a7 a8 a9 := by
  have k : ∀ j, w'.cell? ⟨b, j, none⟩ = w.cell? ⟨b, j, none⟩ := fun j => World.cell?_of_block (w := w) (a := ⟨b, j, none⟩) e
  simp only [Pol, k]; exact h
theorem Pol.drew {w : World} {b : Nat} {a0 : ByteArray} {a1 a2 a3 a4 a5 a6 : Int} {a7 : ByteArray} {a8 a9 : Int} (h : Pol w b a0 a1 a2 a3 a4 a5 a6 a7 a8 a9) : Pol w.drew b a0 a1 a2 a3 a4 a5 a6 a7 a8 a9 := h
theorem Pol.lt {w : World} {b : Nat} {a0 : ByteArray} {a1 a2 a3 a4 a5 a6 : Int} {a7 : ByteArray} {a8 a9 : Int} (h : Pol w b a0 a1 a2 a3 a4 a5 a6 a7 a8 a9) : b < w.heap.size := World.block_lt_of_cell? w _ h.1
theorem Pol.below {w w' : World} {b : Nat} {a0 : ByteArray} {a1 a2 a3 a4 a5 a6 : Int} {a7 : ByteArray} {a8 a9 : Int} (h : Pol w b a0 a1 a2 a3 a4 a5 a6 a7 a8 a9) (t : Below w.heap.size w w') : Pol w' b a0 a1 a2 a3 a4 a5 a6 a7 a8 a9 := h.keep (t.block b h.lt)

set_option maxRecDepth 100000 in
/-- 'ZZcountSettingText'. -/
theorem stext_any (name what usage a0 : ByteArray) (a1 a2 a3 a4 a5 a6 : Int) (a7 : ByteArray) (a8 a9 : Int) (h0 : -9223372036854775808 ≤ a4) (h1 : a4 ≤ 9223372036854775807) (w : World) (ht : Hid (Tab w)) :
    Calls Tryf.prog 7 #[.string name, .string what, .string usage, .agg #[.string a0, .int .i64 a1, .int .i64 a2, .int .u8 a3, .int .i64 a4, .int .u8 a5, .int .i64 a6, .string a7, .int .i64 a8, .int .i64 a9]] w fun e w' => e = .returned (.string (txt a4)) ∧ Below w.heap.size w w' := by
  have q := fld4
  go_enter Tryf.func7, Tryf.ntmps7
  go_wp2_with fail
  go_region_with (first
    | (go_at_call 10; refine (setting_any name what usage _).mono ?_; rintro e w1 ⟨rfl, hB1, hc1, hc2⟩; obtain ⟨d0, d1, d2, d3, d4, d5, d6, d7, d8, d9⟩ := (Pol.new w 30 a0 a1 a2 a3 a4 a5 a6 a7 a8 a9).drew.below hB1)
    | (go_at_call 14; refine (text_any a0 a1 a2 a3 a4 a5 a6 a7 a8 a9 _ h0 h1 _ ?_ ?_).mono ?_; exact tab_below (tab_below ht (((Below.refl _ _).alloc (Nat.le_refl _) _).drew)) hB1; (simpa using hc2); rintro e w2 ⟨rfl, hB2⟩))
  all_goals
    have hBB : Below w.heap.size w w2 := by
      have k1 := (((Below.refl w.heap.size w).alloc (Nat.le_refl _) _).drew).trans (hB1.mono (by simp))
      exact k1.trans (hB2.mono k1.size)
    clear hB1 hB2 q
    go_wp2_with fail
    go_ret
    exact ⟨rfl, hBB⟩

theorem Pol.touch {S : Nat → Prop} {w w' : World} {b : Nat} {a0 : ByteArray} {a1 a2 a3 a4 a5 a6 : Int} {a7 : ByteArray} {a8 a9 : Int} (h : Pol w b a0 a1 a2 a3 a4 a5 a6 a7 a8 a9) (t : Touch S w w') (hn : ¬ S b) : Pol w' b a0 a1 a2 a3 a4 a5 a6 a7 a8 a9 := h.keep (t.block b h.lt hn)
theorem Pol.set4 {w : World} {b : Nat} {a0 : ByteArray} {a1 a2 a3 a4 a5 a6 : Int} {a7 : ByteArray} {a8 a9 : Int} (h : Pol w b a0 a1 a2 a3 a4 a5 a6 a7 a8 a9) (x : Int) : Pol (w.setCell ⟨b, 4, none⟩ (.int .i64 x)) b a0 a1 a2 a3 x a5 a6 a7 a8 a9 := by
  obtain ⟨d0, d1, d2, d3, d4, d5, d6, d7, d8, d9⟩ := h
  have k : ∀ j, j ≠ 4 → (w.setCell ⟨b, 4, none⟩ (.int .i64 x)).cell? ⟨b, j, none⟩ = w.cell? ⟨b, j, none⟩ := fun j hj => World.cell?_setCell_other w _ _ _ (fun e => hj (by have := congrArg Addr.off e; simpa using this.symm))
  refine ⟨?_, ?_, ?_, ?_, World.cell?_setCell_same w _ _ d4, ?_, ?_, ?_, ?_, ?_⟩
  · rw [k 0 (by omega)]; exact d0
  · rw [k 1 (by omega)]; exact d1
  · rw [k 2 (by omega)]; exact d2
  · rw [k 3 (by omega)]; exact d3
  · rw [k 5 (by omega)]; exact d5
  · rw [k 6 (by omega)]; exact d6
  · rw [k 7 (by omega)]; exact d7
  · rw [k 8 (by omega)]; exact d8
  · rw [k 9 (by omega)]; exact d9

set_option maxHeartbeats 1600000 in
set_option maxRecDepth 100000 in
/-- The closure 'set', where the text is read. -/
theorem set_ok (b bw bc : Nat) (t what : ByteArray) (v : Int) (a0 : ByteArray) (a1 a2 a3 a4 a5 a6 : Int) (a7 : ByteArray) (a8 a9 : Int) (w : World) (ht : t.size ≤ 1000) (hv : 1 ≤ v) (h : Hid (Lib.atoiAll t.data.toList = .ok v))
    (hP : Pol w b a0 a1 a2 a3 a4 a5 a6 a7 a8 a9) (hf : w.frozen? ⟨b, 4, none⟩ = false) (hcw : w.cell? ⟨bw, 0, none⟩ = some (.string what)) (hcc : w.cell? ⟨bc, 0, none⟩ = some (.func (.func 11) #[] #[])) :
    Calls Tryf.prog 12 #[.pointer (some ⟨b, 0, none⟩), .string t, .pointer (some ⟨bw, 0, none⟩), .pointer (some ⟨bc, 0, none⟩)] w fun e w' => e = .returned .nilIface ∧ Touch (fun x => x = b) w w' ∧ Pol w' b a0 a1 a2 a3 v a5 a6 a7 a8 a9 := by
  have hlt := hP.lt
  have hPP := show Hid _ from hP
  clear hP
  go_enter Tryf.func12, Tryf.ntmps12
  go_wp2_with fail
  go_region_with (first
    | (go_at_call 11; refine (field_any b _).mono ?_; rintro e wf ⟨rfl, rfl⟩)
    | (go_at_call 13; refine (parse_ok t what ht v h.out hv _).mono ?_; rintro e w2 ⟨rfl, hB2⟩; have e4 : w2.cell? ⟨b, 4, none⟩ = some (.int .i64 a4) := (hB2.cell hlt).trans hPP.out.2.2.2.2.1; have f4 : w2.frozen? ⟨b, 4, none⟩ = false := (hB2.frozen hlt).trans hf))
  all_goals
    have hTT := (((Touch.refl (fun x => x = b) w).drew).trans (Touch.ofBelow hB2)).setCell (p := ⟨b, 4, none⟩) rfl (.int .i64 v)
    have hPo := ((Pol.drew hPP.out).below hB2).set4 v
    clear hB2 e4 f4 hPP
    go_wp2_with fail
    go_ret
    exact ⟨rfl, hTT, hPo⟩

/-- 'parseCount' at t refuses, in every world in which fmt answers as F and the variable holds an error. -/
def Refuses (F : Interp) (t what : ByteArray) (tp : TypeId) (p : Value) : Prop := ∀ w : World, F.answers w.tape → Sx w tp p →
  Calls Tryf.prog 13 #[.string t, .string what] w fun e w' => ∃ N, e = .returned (.tuple #[.int .i64 0, .iface 62 (.pointer (some ⟨N, 0, none⟩))]) ∧ Below w.heap.size w w'
theorem sx_below {w w' : World} {tp : TypeId} {p : Value} (h : Hid (Sx w tp p)) (hb : Below w.heap.size w w') (hg : 0 < w.heap.size) : Hid (Sx w' tp p) :=
  var?_below (g := 0) hb (by kernel_rfl) hg h.out

set_option maxHeartbeats 1600000 in
set_option maxRecDepth 100000 in
/-- The closure 'set', where the text is refused. -/
theorem set_bad (F : Interp) (b bw bc : Nat) (t what : ByteArray) (tp : TypeId) (p : Value) (a0 : ByteArray) (a1 a2 a3 a4 a5 a6 : Int) (a7 : ByteArray) (a8 a9 : Int) (w : World) (h : Refuses F t what tp p) (hF : Hid (F.answers w.tape)) (hS : Hid (Sx w tp p))
    (hP : Pol w b a0 a1 a2 a3 a4 a5 a6 a7 a8 a9) (hf : w.frozen? ⟨b, 4, none⟩ = false) (hcw : w.cell? ⟨bw, 0, none⟩ = some (.string what)) (hcc : w.cell? ⟨bc, 0, none⟩ = some (.func (.func 11) #[] #[])) :
    Calls Tryf.prog 12 #[.pointer (some ⟨b, 0, none⟩), .string t, .pointer (some ⟨bw, 0, none⟩), .pointer (some ⟨bc, 0, none⟩)] w fun e w' => ∃ N, e = .returned (.iface 62 (.pointer (some ⟨N, 0, none⟩))) ∧ Touch (fun x => x = b) w w' ∧ Pol w' b a0 a1 a2 a3 0 a5 a6 a7 a8 a9 := by
  have hlt := hP.lt
  have hS2 : Hid (Sx w.drew tp p) := sx_below hS (Below.refl _ _).drew (by omega)
  have hPP := show Hid _ from hP
  clear hP
  go_enter Tryf.func12, Tryf.ntmps12
  go_wp2_with fail
  go_region_with (first
    | (go_at_call 11; refine (field_any b _).mono ?_; rintro e wf ⟨rfl, rfl⟩)
    | (go_at_call 13; refine (h _ ?_ ?_).mono ?_; exact hF.out; exact hS2.out; rintro e w2 ⟨N, rfl, hB2⟩; have e4 : w2.cell? ⟨b, 4, none⟩ = some (.int .i64 a4) := (hB2.cell hlt).trans hPP.out.2.2.2.2.1; have f4 : w2.frozen? ⟨b, 4, none⟩ = false := (hB2.frozen hlt).trans hf))
  all_goals
    have hTT := (((Touch.refl (fun x => x = b) w).drew).trans (Touch.ofBelow hB2)).setCell (p := ⟨b, 4, none⟩) rfl (.int .i64 0)
    have hPo := ((Pol.drew hPP.out).below hB2).set4 0
    clear hB2 e4 f4 hPP
    go_wp2_with fail
    go_ret
    exact ⟨N, rfl, hTT, hPo⟩

/-- 'ZZcountSettingSet', where the text is read. -/
theorem zset_ok (b : Nat) (name t what usage : ByteArray) (v : Int) (a0 : ByteArray) (a1 a2 a3 a4 a5 a6 : Int) (a7 : ByteArray) (a8 a9 : Int) (w : World) (ht : t.size ≤ 1000) (hv : 1 ≤ v) (h : Hid (Lib.atoiAll t.data.toList = .ok v))
    (hP : Pol w b a0 a1 a2 a3 a4 a5 a6 a7 a8 a9) (hf : w.frozen? ⟨b, 4, none⟩ = false) :
    Calls Tryf.prog 9 #[.string name, .string what, .string usage, .pointer (some ⟨b, 0, none⟩), .string t] w fun e w' => e = .returned .nilIface ∧ Touch (fun x => x = b) w w' ∧ Pol w' b a0 a1 a2 a3 v a5 a6 a7 a8 a9 := by
  have q := fld3
  go_enter Tryf.func9, Tryf.ntmps9
  go_wp2_with fail
  refine (setting_any name what usage w).mono ?_
  rintro e w1 ⟨rfl, hB1, hc1, hc2⟩
  go_wp2_with fail
  refine (set_ok b w.heap.size (w.heap.size + 1) t what v a0 a1 a2 a3 a4 a5 a6 a7 a8 a9 w1 ht hv h (hP.below hB1) ((hB1.frozen hP.lt).trans hf) hc1 hc2).mono ?_
  rintro e w2 ⟨rfl, hT2, hP2⟩
  have hTT := (Touch.ofBelow (S := fun x => x = b) hB1).trans hT2
  clear q hB1 hT2
  go_wp2_with fail
  go_ret
  exact ⟨rfl, hTT, hP2⟩
/-- 'ZZcountSettingSet', where the text is refused. -/
theorem zset_bad (F : Interp) (b : Nat) (name t what usage : ByteArray) (tp : TypeId) (p : Value) (a0 : ByteArray) (a1 a2 a3 a4 a5 a6 : Int) (a7 : ByteArray) (a8 a9 : Int) (w : World) (h : Refuses F t what tp p) (hF : Hid (F.answers w.tape)) (hS : Hid (Sx w tp p))
    (hP : Pol w b a0 a1 a2 a3 a4 a5 a6 a7 a8 a9) (hf : w.frozen? ⟨b, 4, none⟩ = false) :
    Calls Tryf.prog 9 #[.string name, .string what, .string usage, .pointer (some ⟨b, 0, none⟩), .string t] w fun e w' => ∃ N, e = .returned (.iface 62 (.pointer (some ⟨N, 0, none⟩))) ∧ Touch (fun x => x = b) w w' ∧ Pol w' b a0 a1 a2 a3 0 a5 a6 a7 a8 a9 := by
  have q := fld3
  go_enter Tryf.func9, Tryf.ntmps9
  go_wp2_with fail
  refine (setting_any name what usage w).mono ?_
  rintro e w1 ⟨rfl, hB1, hc1, hc2⟩
  have hF1 : Hid (F.answers w1.tape) := by unfold Hid; rw [hB1.tape]; exact hF
  have hS1 := sx_below hS hB1 (by have := hP.lt; omega)
  go_wp2_with fail
  refine (set_bad F b w.heap.size (w.heap.size + 1) t what tp p a0 a1 a2 a3 a4 a5 a6 a7 a8 a9 w1 h hF1 hS1 (hP.below hB1) ((hB1.frozen hP.lt).trans hf) hc1 hc2).mono ?_
  rintro e w2 ⟨N, rfl, hT2, hP2⟩
  have hTT := (Touch.ofBelow (S := fun x => x = b) hB1).trans hT2
  clear q hB1 hT2
  go_wp2_with fail
  go_ret
  exact ⟨N, rfl, hTT, hP2⟩

/-- Some Boolean comes back, and Q holds of it. -/
def AnsB (e : Ending) (Q : Bool → Prop) : Prop := ∃ b : Bool, e = .returned (.bool b) ∧ Q b
/-- 'zzBytes_..': some answer. -/
theorem bytes_any (name what usage mw : ByteArray) (k m kp kd km ky wo ym : Int) (w : World) (h0 : name.size ≤ maxLen) (h1 : what.size ≤ maxLen) (h2 : usage.size ≤ maxLen) (h3 : mw.size ≤ maxLen) :
    Calls Tryf.prog 4 #[.string name, .string what, .string usage, .int .i64 k, .int .i64 m, .int .i64 kp, .int .i64 kd, .int .i64 km, .int .i64 ky, .string mw, .int .u8 wo, .int .i64 ym] w fun e w' => AnsB e (fun _ => True) ∧ w' = w := by
  unfold maxLen at h0 h1 h2 h3
  go_enter Tryf.func4, Tryf.ntmps4
  go_wp2
  all_goals
    go_ret
    exact ⟨⟨_, rfl, trivial⟩, rfl⟩
end Go.Proofs.Qxb6616338aFmt
