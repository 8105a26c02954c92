/-
  A word for worlds: 'Turned S w w'': of the blocks that were there only those of S have turned.
-/
import Derived.WalkKit
import Derived.BigQuiet
namespace Go.Proofs.YbulkbkzyDoor
open Go Go.RowKit

/-- Of the blocks that were there, only those of S have turned. -/
structure Turned (S : Nat → Prop) (w w' : World) : Prop where
  os : w'.os = w.os
  tape : w'.tape = w.tape
  output : w'.output = w.output
  size : w.heap.size ≤ w'.heap.size
  block : ∀ k, k < w.heap.size → ¬ S k → w'.heap[k]? = w.heap[k]?

section
variable {S : Nat → Prop} {w w1 w' : World}
theorem Turned.refl (S : Nat → Prop) (w : World) : Turned S w w := ⟨rfl, rfl, rfl, Nat.le_refl _, fun _ _ _ => rfl⟩
theorem Turned.trans (h : Turned S w w1) (k : Turned S w1 w') : Turned S w w' :=
  ⟨k.os.trans h.os, k.tape.trans h.tape, k.output.trans h.output, Nat.le_trans h.size k.size, fun j hj hn => (k.block j (Nat.lt_of_lt_of_le hj h.size) hn).trans (h.block j hj hn)⟩
/-- What a later step may turn beyond S is new. -/
theorem Turned.trans' {T : Nat → Prop} (h : Turned S w w1) (k : Turned T w1 w') (hT : ∀ j, j < w.heap.size → T j → S j) : Turned S w w' :=
  ⟨k.os.trans h.os, k.tape.trans h.tape, k.output.trans h.output, Nat.le_trans h.size k.size, fun j hj hn => (k.block j (Nat.lt_of_lt_of_le hj h.size) (fun t => hn (hT j hj t))).trans (h.block j hj hn)⟩
theorem Turned.mono {T : Nat → Prop} (h : Turned S w w') (hT : ∀ j, j < w.heap.size → S j → T j) : Turned T w w' :=
  ⟨h.os, h.tape, h.output, h.size, fun j hj hn => h.block j hj fun s => hn (hT j hj s)⟩
theorem Turned.alloc (h : Turned S w w1) (o : Obj) : Turned S w (w1.alloc o) :=
  ⟨h.os, h.tape, h.output, by simp; have := h.size; omega, fun j hj hn => (Below.heap_alloc _ _ _ (Nat.lt_of_lt_of_le hj h.size)).trans (h.block j hj hn)⟩
theorem Turned.setCell (h : Turned S w w1) {p : Addr} (hp : p.block < w.heap.size → S p.block) (u : Value) : Turned S w (w1.setCell p u) :=
  have hb := (Below.refl 0 w1).setCell (p := p) (Nat.zero_le _) u
  ⟨hb.os.trans h.os, hb.tape.trans h.tape, hb.output.trans h.output, Nat.le_trans h.size hb.size, fun j hj hn => (Below.heap_setCell _ _ _ _ (fun e => hn (by subst e; exact hp hj))).trans (h.block j hj hn)⟩
theorem Turned.drewN (h : Turned S w w1) (n : Nat) : Turned S w (w1.drewN n) := ⟨h.os, h.tape, h.output, h.size, h.block⟩
theorem Turned.drew (h : Turned S w w1) : Turned S w w1.drew := ⟨h.os, h.tape, h.output, h.size, h.block⟩
theorem Turned.grown {row : Option Nat} (h : Turned S w w1) (hg : w1.grownBy w' row) (hr : ∀ j, row = some j → j < w.heap.size → S j) : Turned S w w' :=
  ⟨hg.os.trans h.os, hg.tape.trans h.tape, hg.output.trans h.output, Nat.le_trans h.size hg.size, fun j hj hn => (hg.block j (Nat.lt_of_lt_of_le hj h.size) (fun e => hn (hr j e.symm hj))).trans (h.block j hj hn)⟩
theorem Turned.below {B : Nat} (h : Turned S w w') (hB : B ≤ w.heap.size) (hS : ∀ j, S j → B ≤ j) : Below B w w' :=
  ⟨h.os, h.tape, h.output, h.size, fun j hj => h.block j (by omega) (fun s => by have := hS j s; omega)⟩
theorem Turned.ofBelow {B : Nat} (h : Below B w w') : Turned (fun j => B ≤ j) w w' :=
  ⟨h.os, h.tape, h.output, h.size, fun j _ hn => h.block j (by omega)⟩
theorem Turned.cell (h : Turned S w w') {p : Addr} (hp : p.block < w.heap.size) (hn : ¬ S p.block) : w'.cell? p = w.cell? p := World.cell?_of_block (h.block _ hp hn)
theorem Turned.frozen (h : Turned S w w') {p : Addr} (hp : p.block < w.heap.size) (hn : ¬ S p.block) : w'.frozen? p = w.frozen? p := World.frozen?_of_block (h.block _ hp hn)
theorem Turned.owns {base : Nat} {e : TypeId} {size : Nat} {v : Value} {n : Nat} {xs : List Value} (h : Turned S w w') (ho : w.ownsRow base e size v n xs) (hn : ∀ k, v.ownBlock = some k → ¬ S k) : w'.ownsRow base e size v n xs := by
  have hlt := ho.lt
  obtain ⟨hl, hv | ⟨g, cap, cur, rfl, hb, hg, rest⟩⟩ := ho
  · exact ⟨hl, .inl hv⟩
  · exact ⟨hl, .inr ⟨g, cap, cur, rfl, hb, (h.block g (hlt g rfl).2 (hn g rfl)).trans hg, rest⟩⟩
end
end Go.Proofs.YbulkbkzyDoor
