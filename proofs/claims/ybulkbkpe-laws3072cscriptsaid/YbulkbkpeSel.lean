/-
  A SELECT OF ONE SEND CASE WITH A DEFAULT, AS A LAW OF THE KIT's WALK ('Code.wp'): room: the value goes into the buffer; no room: the default. And a word for worlds: 'Turned S w w''.
-/
import Derived.WalkKit
import Derived.Conc.LoneSelect
import Derived.BigQuiet
namespace Go.Proofs.Ybulkbkpe
open Go Go.Conc Go.RowKit

section
variable {P : Program} {b : Frame} {a : Act} {k : List Item} {cs : List Frame} {w : World} {ops : Array Oper}

/-- A goroutine that stands at a communication hands it up, whatever its frame's kind; what it lists is not asked after. -/
theorem stepG_comm_any {i : Nat} {rest : List Nat} {o : Oper} {cases : Array CommCase} {blocking : Bool} {shape : CommShape} {w' : World} (ho : ops[i]? = some o) (hw : Region.wanted o (yielded ops a.tmps) = true)
    (hr : (execOp a.eval o).run P w = .ok (.comm cases blocking shape) w') :
    ∃ es, stepG P true (G (b.at a (.inRegion ops (i :: rest) :: k)) cs) w = .comm (G (b.at a (.inRegion ops (i :: rest) :: k)) cs) cases blocking shape w' es := by
  have h := stepG_op (P := P) (b := b) (k := k) (cs := cs) (w := w) (rest := rest) ho hw
  have e : stepG P true (G (b.at a (.inRegion ops (i :: rest) :: k)) cs) w = stepG.apply P true (b.at a (.inRegion ops (i :: rest) :: k)) cs none (execOp a.eval o) w := h
  rw [e]
  simp only [stepG.apply, Sem.runT_eq, hr, GStep.after, G]
  exact ⟨_, rfl⟩

theorem arrives_select_room {Q : Exit → Act → World → Prop} {i : Nat} {rest : List Nat} {o : Oper} {c cap s r : Nat} {buf : Array Value} {v z : Value} {tm : Bool}
    (ho : ops[i]? = some o) (hw : Region.wanted o (yielded ops a.tmps) = true) (hr : (execOp a.eval o).run P w = .ok (.comm #[scase c v z] false .select) w)
    (hc : w.heap[c]? = some (.chan cap buf false s r tm)) (hroom : buf.size < cap)
    (h : wpOps P ops Q rest (a.put o.dst (.tuple #[goInt 0, .bool false])) (w.setChan c cap (buf.push v) false (s + 1) r tm)) (b : Frame) (k : List Item) (cs : List Frame) :
    ∃ e a' w', Q e a' w' ∧ Arrives P (lone (b.at a (.inRegion ops (i :: rest) :: k)) cs w) b k cs e a' w' := by
  obtain ⟨e, a', w', hq, harr⟩ := wp_ops _ _ _ h b k cs
  refine ⟨e, a', w', hq, .of_steps (.one ?_) harr⟩
  obtain ⟨es, hs⟩ := stepG_comm_any (P := P) (b := b) (k := k) (cs := cs) (rest := rest) ho hw hr
  have := step_lone_select_send_room hs hc hroom
  rw [Frame.finish_at, ho] at this
  exact this
theorem arrives_select_full {Q : Exit → Act → World → Prop} {i : Nat} {rest : List Nat} {o : Oper} {c cap s r : Nat} {buf : Array Value} {v z : Value} {tm : Bool}
    (ho : ops[i]? = some o) (hw : Region.wanted o (yielded ops a.tmps) = true) (hr : (execOp a.eval o).run P w = .ok (.comm #[scase c v z] false .select) w)
    (hc : w.heap[c]? = some (.chan cap buf false s r tm)) (hfull : cap ≤ buf.size)
    (h : wpOps P ops Q rest (a.put o.dst (.tuple #[goInt (-1), .bool false])) w) (b : Frame) (k : List Item) (cs : List Frame) :
    ∃ e a' w', Q e a' w' ∧ Arrives P (lone (b.at a (.inRegion ops (i :: rest) :: k)) cs w) b k cs e a' w' := by
  obtain ⟨e, a', w', hq, harr⟩ := wp_ops _ _ _ h b k cs
  refine ⟨e, a', w', hq, .of_steps (.one ?_) harr⟩
  obtain ⟨es, hs⟩ := stepG_comm_any (P := P) (b := b) (k := k) (cs := cs) (rest := rest) ho hw hr
  have := step_lone_select_send_full hs hc hfull
  rw [Frame.finish_at, ho] at this
  exact this
end

section
variable {P : Program} {Q : Exit → Act → World → Prop} {a : Act} {w : World} {id : Nat} {o : Oper} {rest : List Oper} {c cap s r : Nat} {buf : Array Value} {v z : Value} {tm : Bool}
theorem range_cons (o : Oper) (rest : List Oper) : List.range (o :: rest).toArray.size = 0 :: List.range' 1 rest.length := by
  simp [List.range_eq_range', List.range'_succ]
theorem wpOps_tail : wpOps P (o :: rest).toArray Q (List.range' 1 rest.length) = wpList P (o :: rest).toArray Q rest :=
  wpOps_eq_wpList rest 1 (fun j => by simp [Nat.add_comm 1 j])

/-- THE SEND CASE HAS ROOM. -/
theorem wp_region_select_room (hw : Region.wanted o (yielded (o :: rest).toArray a.tmps) = true) (hr : (execOp a.eval o).run P w = .ok (.comm #[scase c v z] false .select) w)
    (hc : w.heap[c]? = some (.chan cap buf false s r tm)) (hroom : buf.size < cap)
    (h : wpList P (o :: rest).toArray Q rest (a.put o.dst (.tuple #[goInt 0, .bool false])) (w.setChan c cap (buf.push v) false (s + 1) r tm)) :
    (Code.region id (o :: rest).toArray false).wp P Q a w := by
  intro b k cs
  rw [← wpOps_tail] at h
  obtain ⟨e, a', w', hq, harr⟩ := arrives_select_room (P := P) (i := 0) (ops := (o :: rest).toArray) (by simp) hw hr hc hroom h b k cs
  refine ⟨e, a', w', hq, .of_steps (.one ?_) harr⟩
  rw [← range_cons]
  exact step_region
/-- IT HAS NONE: THE DEFAULT. -/
theorem wp_region_select_full (hw : Region.wanted o (yielded (o :: rest).toArray a.tmps) = true) (hr : (execOp a.eval o).run P w = .ok (.comm #[scase c v z] false .select) w)
    (hc : w.heap[c]? = some (.chan cap buf false s r tm)) (hfull : cap ≤ buf.size)
    (h : wpList P (o :: rest).toArray Q rest (a.put o.dst (.tuple #[goInt (-1), .bool false])) w) :
    (Code.region id (o :: rest).toArray false).wp P Q a w := by
  intro b k cs
  rw [← wpOps_tail] at h
  obtain ⟨e, a', w', hq, harr⟩ := arrives_select_full (P := P) (i := 0) (ops := (o :: rest).toArray) (by simp) hw hr hc hfull h b k cs
  refine ⟨e, a', w', hq, .of_steps (.one ?_) harr⟩
  rw [← range_cons]
  exact step_region
end

/-- Of the blocks that were there, only those of S have turned. -/
structure Turned (S : Nat → Prop) (w w' : World) : Prop where
  os : w'.os = w.os
  tape : w'.tape = w.tape
  output : w'.output = w.output
  size : w.heap.size ≤ w'.heap.size
  block : ∀ k, k < w.heap.size → ¬ S k → w'.heap[k]? = w.heap[k]?

section
variable {S : Nat → Prop} {w w1 w' : World}
theorem Turned.refl (S : Nat → Prop) (w : World) : Turned S w w := ⟨rfl, rfl, rfl, Nat.le_refl _, fun _ _ _ => rfl⟩
theorem Turned.trans (h : Turned S w w1) (k : Turned S w1 w') : Turned S w w' :=
  ⟨k.os.trans h.os, k.tape.trans h.tape, k.output.trans h.output, Nat.le_trans h.size k.size, fun j hj hn => (k.block j (Nat.lt_of_lt_of_le hj h.size) hn).trans (h.block j hj hn)⟩
/-- What a later step may turn beyond S is new. -/
theorem Turned.trans' {T : Nat → Prop} (h : Turned S w w1) (k : Turned T w1 w') (hT : ∀ j, j < w.heap.size → T j → S j) : Turned S w w' :=
  ⟨k.os.trans h.os, k.tape.trans h.tape, k.output.trans h.output, Nat.le_trans h.size k.size, fun j hj hn => (k.block j (Nat.lt_of_lt_of_le hj h.size) (fun t => hn (hT j hj t))).trans (h.block j hj hn)⟩
theorem Turned.mono {T : Nat → Prop} (h : Turned S w w') (hT : ∀ j, j < w.heap.size → S j → T j) : Turned T w w' :=
  ⟨h.os, h.tape, h.output, h.size, fun j hj hn => h.block j hj fun s => hn (hT j hj s)⟩
theorem Turned.alloc (h : Turned S w w1) (o : Obj) : Turned S w (w1.alloc o) :=
  ⟨h.os, h.tape, h.output, by simp; have := h.size; omega, fun j hj hn => (Below.heap_alloc _ _ _ (Nat.lt_of_lt_of_le hj h.size)).trans (h.block j hj hn)⟩
theorem Turned.setCell (h : Turned S w w1) {p : Addr} (hp : p.block < w.heap.size → S p.block) (u : Value) : Turned S w (w1.setCell p u) :=
  have hb := (Below.refl 0 w1).setCell (p := p) (Nat.zero_le _) u
  ⟨hb.os.trans h.os, hb.tape.trans h.tape, hb.output.trans h.output, Nat.le_trans h.size hb.size, fun j hj hn => (Below.heap_setCell _ _ _ _ (fun e => hn (by subst e; exact hp hj))).trans (h.block j hj hn)⟩
theorem Turned.drewN (h : Turned S w w1) (n : Nat) : Turned S w (w1.drewN n) := ⟨h.os, h.tape, h.output, h.size, h.block⟩
theorem Turned.drew (h : Turned S w w1) : Turned S w w1.drew := ⟨h.os, h.tape, h.output, h.size, h.block⟩
theorem Turned.grown {row : Option Nat} (h : Turned S w w1) (hg : w1.grownBy w' row) (hr : ∀ j, row = some j → j < w.heap.size → S j) : Turned S w w' :=
  ⟨hg.os.trans h.os, hg.tape.trans h.tape, hg.output.trans h.output, Nat.le_trans h.size hg.size, fun j hj hn => (hg.block j (Nat.lt_of_lt_of_le hj h.size) (fun e => hn (hr j e.symm hj))).trans (h.block j hj hn)⟩
theorem Turned.setChan (h : Turned S w w1) {c : Nat} (hc : c < w.heap.size → S c) (cap : Nat) (buf : Array Value) (cl : Bool) (s r : Nat) (tm : Bool) : Turned S w (w1.setChan c cap buf cl s r tm) :=
  ⟨h.os, h.tape, h.output, by simp [World.setChan]; exact h.size, fun j hj hn => by
    have e : c ≠ j := fun e => hn (by subst e; exact hc hj)
    simp only [World.setChan]
    rw [Array.getElem?_setIfInBounds_ne e]
    exact h.block j hj hn⟩
theorem Turned.below {B : Nat} (h : Turned S w w') (hB : B ≤ w.heap.size) (hS : ∀ j, S j → B ≤ j) : Below B w w' :=
  ⟨h.os, h.tape, h.output, h.size, fun j hj => h.block j (by omega) (fun s => by have := hS j s; omega)⟩
theorem Turned.ofBelow {B : Nat} (h : Below B w w') : Turned (fun j => B ≤ j) w w' :=
  ⟨h.os, h.tape, h.output, h.size, fun j _ hn => h.block j (by omega)⟩
theorem Turned.cell (h : Turned S w w') {p : Addr} (hp : p.block < w.heap.size) (hn : ¬ S p.block) : w'.cell? p = w.cell? p := World.cell?_of_block (h.block _ hp hn)
theorem Turned.frozen (h : Turned S w w') {p : Addr} (hp : p.block < w.heap.size) (hn : ¬ S p.block) : w'.frozen? p = w.frozen? p := World.frozen?_of_block (h.block _ hp hn)
theorem Turned.owns {base : Nat} {e : TypeId} {size : Nat} {v : Value} {n : Nat} {xs : List Value} (h : Turned S w w') (ho : w.ownsRow base e size v n xs) (hn : ∀ k, v.ownBlock = some k → ¬ S k) : w'.ownsRow base e size v n xs := by
  have hlt := ho.lt
  obtain ⟨hl, hv | ⟨g, cap, cur, rfl, hb, hg, rest⟩⟩ := ho
  · exact ⟨hl, .inl hv⟩
  · exact ⟨hl, .inr ⟨g, cap, cur, rfl, hb, (h.block g (hlt g rfl).2 (hn g rfl)).trans hg, rest⟩⟩
end
end Go.Proofs.Ybulkbkpe
