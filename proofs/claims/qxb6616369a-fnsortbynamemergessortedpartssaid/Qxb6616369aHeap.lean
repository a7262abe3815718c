/-
  Facts on memory that the seat's walks share: a row of one-cell values in a block of the call's own; what a call has touched.
-/
import Derived.WalkKit
import Derived.Below
import Derived.Deep.Draws

namespace Go.Proofs.Qxb6616369a
open Go.RowKit

/-- Block g holds the n values V 0 .. V (n-1), none frozen. -/
structure VRow (w : World) (g n : Nat) (V : Nat → Value) : Prop where
  lt : g < w.heap.size
  cell : ∀ j, j < n → w.cell? ⟨g, j, none⟩ = some (V j)
  free : ∀ j, w.frozen? ⟨g, j, none⟩ = false

/-- w' is w but for what lies in the blocks S (and new blocks). -/
structure Touch (S : Nat → Prop) (w w' : World) : Prop where
  os : w'.os = w.os
  tape : w'.tape = w.tape
  output : w'.output = w.output
  size : w.heap.size ≤ w'.heap.size
  block : ∀ k, k < w.heap.size → ¬ S k → w'.heap[k]? = w.heap[k]?

theorem Touch.refl (S : Nat → Prop) (w : World) : Touch S w w := ⟨rfl, rfl, rfl, Nat.le_refl _, fun _ _ _ => rfl⟩
theorem Touch.trans {S : Nat → Prop} {a b c : World} (h : Touch S a b) (k : Touch S b c) : Touch S a c :=
  ⟨k.os.trans h.os, k.tape.trans h.tape, k.output.trans h.output, Nat.le_trans h.size k.size, fun i hi hs => (k.block i (Nat.lt_of_lt_of_le hi h.size) hs).trans (h.block i hi hs)⟩
theorem Touch.mono {S S' : Nat → Prop} {a b : World} (h : Touch S a b) (hs : ∀ k, S k → S' k) : Touch S' a b :=
  ⟨h.os, h.tape, h.output, h.size, fun i hi hn => h.block i hi (fun x => hn (hs i x))⟩
theorem Touch.drewN {S : Nat → Prop} {a w : World} (h : Touch S a w) (n : Nat) : Touch S a (w.drewN n) := ⟨h.os, h.tape, h.output, h.size, h.block⟩
theorem Touch.drew {S : Nat → Prop} {a w : World} (h : Touch S a w) : Touch S a w.drew := ⟨h.os, h.tape, h.output, h.size, h.block⟩
theorem Touch.setCell {S : Nat → Prop} {a w : World} (h : Touch S a w) {p : Addr} (hp : S p.block) (u : Value) : Touch S a (w.setCell p u) :=
  h.trans ⟨rfl, rfl, rfl, by simp [World.setCell], fun k _ hn => Below.heap_setCell _ _ _ _ (fun e => hn (e ▸ hp))⟩
theorem Touch.alloc {S : Nat → Prop} {a w : World} (h : Touch S a w) (o : Obj) : Touch S a (w.alloc o) :=
  h.trans ⟨rfl, rfl, rfl, by simp, fun k hk _ => Below.heap_alloc _ _ _ hk⟩
theorem Touch.ofBelow {S : Nat → Prop} {w w' : World} (h : Below w.heap.size w w') : Touch S w w' := ⟨h.os, h.tape, h.output, h.size, fun k hk _ => h.block k hk⟩
theorem Touch.below {S : Nat → Prop} {w w' : World} {B : Nat} (h : Touch S w w') (hB : B ≤ w.heap.size) (hS : ∀ k, S k → B ≤ k) : Below B w w' :=
  ⟨h.os, h.tape, h.output, h.size, fun k hk => h.block k (by omega) (fun s => by have := hS k s; omega)⟩
theorem Touch.cell {S : Nat → Prop} {w w' : World} (h : Touch S w w') {p : Addr} (hp : p.block < w.heap.size) (hn : ¬ S p.block) : w'.cell? p = w.cell? p := World.cell?_of_block (w := w) (h.block p.block hp hn)

theorem VRow.keep {w w' : World} {g n : Nat} {V : Nat → Value} (h : VRow w g n V) (hb : w'.heap[g]? = w.heap[g]?) (hs : w.heap.size ≤ w'.heap.size) : VRow w' g n V :=
  ⟨Nat.lt_of_lt_of_le h.lt hs, fun j hj => (World.cell?_of_block (w := w) (a := ⟨g, j, none⟩) hb).trans (h.cell j hj), fun j => (World.frozen?_of_block (w := w) (a := ⟨g, j, none⟩) hb).trans (h.free j)⟩
theorem VRow.touch {S : Nat → Prop} {w w' : World} {g n : Nat} {V : Nat → Value} (h : VRow w g n V) (t : Touch S w w') (hn : ¬ S g) : VRow w' g n V := h.keep (t.block g h.lt hn) t.size
theorem VRow.below {w w' : World} {g n : Nat} {V : Nat → Value} (h : VRow w g n V) (t : Below w.heap.size w w') : VRow w' g n V := h.keep (t.block g h.lt) t.size
theorem VRow.drewN {w : World} {g n : Nat} {V : Nat → Value} (h : VRow w g n V) (q : Nat) : VRow (w.drewN q) g n V := ⟨h.lt, h.cell, h.free⟩
theorem VRow.drew {w : World} {g n : Nat} {V : Nat → Value} (h : VRow w g n V) : VRow w.drew g n V := ⟨h.lt, h.cell, h.free⟩
theorem VRow.alloc {w : World} {g n : Nat} {V : Nat → Value} (h : VRow w g n V) (o : Obj) : VRow (w.alloc o) g n V := h.keep (Below.heap_alloc _ _ _ h.lt) (by simp)
theorem VRow.set {w : World} {g n : Nat} {V : Nat → Value} (h : VRow w g n V) {j : Nat} (hj : j < n) (u : Value) : VRow (w.setCell ⟨g, j, none⟩ u) g n (fun x => if x = j then u else V x) := by
  refine ⟨by simpa [World.setCell] using h.lt, fun x hx => ?_, fun x => ?_⟩
  · by_cases e : x = j
    · subst e
      rw [World.cell?_setCell_same w _ _ (h.cell x hx), if_pos rfl]
    · rw [World.cell?_setCell_other w _ _ _ (by simp), if_neg e]
      exact h.cell x hx
  · rw [World.frozen?_setCell]; exact h.free x
theorem VRow.setOther {w : World} {g n : Nat} {V : Nat → Value} (h : VRow w g n V) {p : Addr} (hp : p.block ≠ g) (u : Value) : VRow (w.setCell p u) g n V :=
  h.keep (Below.heap_setCell _ _ _ _ (fun e => hp e.symm)) (by simp [World.setCell])
theorem VRow.congr {w : World} {g n : Nat} {V V' : Nat → Value} (h : VRow w g n V) (e : ∀ j, j < n → V j = V' j) : VRow w g n V' := ⟨h.lt, fun j hj => by rw [h.cell j hj, e j hj], h.free⟩
theorem VRow.less {w : World} {g n m : Nat} {V : Nat → Value} (h : VRow w g n V) (hm : m ≤ n) : VRow w g m V := ⟨h.lt, fun j hj => h.cell j (by omega), h.free⟩
/-- What a 'make' has laid. -/
theorem VRow.ofOwns {w : World} {base : Nat} {e : TypeId} {g n : Nat} {z : Value} {L : List Value} (h : w.ownsRow base e 1 (.slice (some ⟨g, 0, none⟩) n n) n L) (hg : g < w.heap.size) (hL : L = List.replicate n z) : VRow w g n (fun _ => z) := by
  refine ⟨hg, fun j hj => ?_, fun j => h.frozenAt j⟩
  rw [h.cellAt j (by omega), hL]
  simp [hj]
end Go.Proofs.Qxb6616369a
