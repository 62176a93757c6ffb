/- What a call may change: plain facts on worlds, no program in sight. -/
import Derived.Below
import Derived.WalkKit
import Derived.Lib.Hide
namespace Go.Proofs.YtkagkopjhgnnlaaGreatDoor
open Go.RowKit

/-- 'w'' is 'w' with new blocks, and other contents of the blocks of S alone. -/
structure Chg (w w' : World) (S : Nat → Prop) : Prop where
  os : w'.os = w.os
  tape : w'.tape = w.tape
  output : w'.output = w.output
  size : w.heap.size ≤ w'.heap.size
  block : ∀ k, k < w.heap.size → ¬ S k → w'.heap[k]? = w.heap[k]?
theorem Chg.refl (w : World) (S : Nat → Prop) : Chg w w S := ⟨rfl, rfl, rfl, Nat.le_refl _, fun _ _ _ => rfl⟩
theorem Chg.trans {w w1 w2 : World} {S S1 : Nat → Prop} (h : Chg w w1 S) (k : Chg w1 w2 S1) (hs : ∀ i, i < w.heap.size → S1 i → S i) : Chg w w2 S :=
  ⟨k.os.trans h.os, k.tape.trans h.tape, k.output.trans h.output, Nat.le_trans h.size k.size,
   fun i hi hn => (k.block i (Nat.lt_of_lt_of_le hi h.size) (fun h1 => hn (hs i hi h1))).trans (h.block i hi hn)⟩
theorem Chg.of_below {w w' : World} (h : Below w.heap.size w w') (S : Nat → Prop) : Chg w w' S := ⟨h.os, h.tape, h.output, h.size, fun i hi _ => h.block i hi⟩
theorem Chg.to_below {B : Nat} {w w' : World} {S : Nat → Prop} (h : Chg w w' S) (hB : B ≤ w.heap.size) (hS : ∀ i, S i → B ≤ i) : Below B w w' :=
  ⟨h.os, h.tape, h.output, h.size, fun i hi => h.block i (by omega) (fun h1 => by have := hS i h1; omega)⟩
theorem Chg.alloc {w w' : World} {S : Nat → Prop} (h : Chg w w' S) (o : Obj) : Chg w (w'.alloc o) S := h.trans (Chg.of_below ((Below.refl _ _).alloc (Nat.le_refl _) o) (fun _ => False)) (fun _ _ h => h.elim)
theorem Chg.drew {w w' : World} {S : Nat → Prop} (h : Chg w w' S) : Chg w w'.drew S := ⟨h.os, h.tape, h.output, h.size, h.block⟩
theorem Chg.setCell {w w' : World} {S : Nat → Prop} (h : Chg w w' S) {p : Addr} (hp : S p.block ∨ w.heap.size ≤ p.block) (u : Value) : Chg w (w'.setCell p u) S :=
  h.trans (S1 := fun i => i = p.block) ⟨rfl, rfl, rfl, by simp [World.setCell], fun i _ hn => Below.heap_setCell w' p u i hn⟩ (fun i hi h1 => by subst h1; exact hp.elim id (fun hp => by omega))
theorem Chg.below {w w1 w2 : World} {S : Nat → Prop} (h : Chg w w1 S) (k : Below w1.heap.size w1 w2) : Chg w w2 S := h.trans (Chg.of_below k (fun _ => False)) (fun _ _ h => h.elim)
theorem blt {w : World} {g : Nat} {o : Obj} (h : w.heap[g]? = some o) : g < w.heap.size := (Array.getElem?_eq_some_iff.1 h).1
theorem Chg.blk {w w' : World} {S : Nat → Prop} (h : Chg w w' S) {g : Nat} {o : Obj} (hb : w.heap[g]? = some o) (hn : ¬ S g) : w'.heap[g]? = some o := (h.block g (blt hb) hn).trans hb
theorem Chg.cell {w w' : World} {S : Nat → Prop} (h : Chg w w' S) {a : Addr} {v : Value} (hc : w.cell? a = some v) (hn : ¬ S a.block) : w'.cell? a = some v := by
  have := h.block a.block (World.block_lt_of_cell? w a hc) hn
  simpa [World.cell?, this] using hc
theorem bblk {w w' : World} (h : Below w.heap.size w w') {g : Nat} {o : Obj} (hb : w.heap[g]? = some o) : w'.heap[g]? = some o := (h.block g (blt hb)).trans hb
theorem bcellv {w w' : World} (h : Below w.heap.size w w') {a : Addr} {v : Value} (hc : w.cell? a = some v) : w'.cell? a = some v := (h.cell (World.block_lt_of_cell? w a hc)).trans hc
theorem bset {w : World} {g : Nat} {t : TypeId} {cs : Array Value} (h : w.heap[g]? = some (.cells cs t (0, 0))) (i : Nat) (u : Value) : (w.setCell ⟨g, i, none⟩ u).heap[g]? = some (.cells (cs.setIfInBounds i u) t (0, 0)) := by
  simp [World.setCell, Array.getElem?_modify, h]
theorem bcell {w : World} {g : Nat} {t : TypeId} {cs : Array Value} (h : w.heap[g]? = some (.cells cs t (0, 0))) (i : Nat) : w.cell? ⟨g, i, none⟩ = cs[i]? := cell_of_row w g i cs t (0, 0) h
theorem bfrozen {w : World} {g : Nat} {t : TypeId} {cs : Array Value} (h : w.heap[g]? = some (.cells cs t (0, 0))) (i : Nat) : w.frozen? ⟨g, i, none⟩ = false := by simp [World.frozen?, h]
end Go.Proofs.YtkagkopjhgnnlaaGreatDoor
