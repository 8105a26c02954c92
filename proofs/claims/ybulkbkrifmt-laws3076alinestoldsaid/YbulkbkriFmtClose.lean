import Derived.Test.YbulkbkriFmtProg
import Derived.Test.YbulkbkriFmtWorld
import Derived.Maps.AppendAt
import Derived.Lib.SmallJoins
import Derived.WalkKit
import Derived.WalkSpells
import Derived.WalkLawsBesides
import Derived.Laws.EntriesVeiled
namespace Go.Proofs.YbulkbkriFmt
open Go.RowKit

theorem info5 : (Ybaf.prog.info? 5).map (fun i => (i.zero, i.size, i.bytes)) = some (some (.int .u8 0), 1, 1) := by kernel_rfl
set_option maxRecDepth 100000 in
set_option maxHeartbeats 800000 in
/-- (*zzs3076avis).EndHunk: one byte more in the log. -/
theorem endHunk_any (w : World) (vb base : Nat) (lv : Value) (L : List Int) (hl : w.cell? ⟨vb, 0, none⟩ = some lv) (hz : w.frozen? ⟨vb, 0, none⟩ = false) (hvb : vb < base) (hbase : base ≤ w.heap.size)
    (hown : w.ownsRow base 5 1 lv L.length (L.map (Value.int .u8))) (hn : L.length ≤ 4096) :
    Calls Ybaf.prog 29 #[.pointer (some ⟨vb, 0, none⟩)] w fun e w' => e = .returned (.tuple #[]) ∧
      ∃ lv', w'.cell? ⟨vb, 0, none⟩ = some lv' ∧ w'.frozen? ⟨vb, 0, none⟩ = false ∧ w'.ownsRow base 5 1 lv' (L ++ [69]).length ((L ++ [69]).map (Value.int .u8)) ∧
        (lv'.ownBlock = lv.ownBlock ∨ lv'.ownBlock = some (w.heap.size + 1)) ∧ Turned (fun k => k = vb ∨ lv.ownBlock = some k) w w' := by
  obtain ⟨i0, hi, hz0, hz1, hz2⟩ := info_parts info5
  go_enter Ybaf.func29, Ybaf.ntmps29
  go_wp2_with (at_builtin; refine wpList_append_own_at _ rfl _ _ 22 rfl base 5 i0 (.int .u8 0) 1 1 Ybaf.underlying22 hi hz0 hz1 hz2 rfl (by decide) lv L.length (L.map (Value.int .u8)) rfl (hown.alloc _) ⟨w.heap.size, 0, none⟩ 1 1 [.int .u8 69] rfl rfl (cell_one_new _ _ _) ?c2 ?c3 ?c4 ?c5 ?_)
  case c2 => intro u hu; simp at hu; subst hu; rfl
  case c3 => unfold maxLen; omega
  case c4 => omega
  case c5 => simp; omega
  intro v' w1 hown' hgrow _ hat
  have hne : lv.ownBlock ≠ some vb := fun e => by have := hown.lt vb e; omega
  have hT : Turned (fun k => k = vb ∨ lv.ownBlock = some k) w w1 := ((Turned.refl _ w).alloc _).grown hgrow (fun j e _ => .inr e)
  have hT' : Turned (fun k => lv.ownBlock = some k) w w1 := ((Turned.refl _ w).alloc _).grown hgrow (fun j e _ => e)
  have c0 : w1.cell? ⟨vb, 0, none⟩ = some lv := (hT'.cell (by exact Nat.lt_of_lt_of_le hvb hbase) hne).trans hl
  have g0 : w1.frozen? ⟨vb, 0, none⟩ = false := (hT'.frozen (by exact Nat.lt_of_lt_of_le hvb hbase) hne).trans hz
  have O0 : w1.ownsRow base 5 1 v' (L ++ [69]).length ((L ++ [69]).map (Value.int .u8)) := by simpa using hown'
  obtain ⟨g, cap, hv⟩ : ∃ g cap, v' = .slice (some ⟨g, 0, none⟩) (L.length + 1) cap := Go.Joins.ownsRow_form hown' (by omega)
  rw [hv] at O0 hat ⊢
  have hlt := O0.lt
  have HA : Hid ((Value.slice (some ⟨g, 0, none⟩) (L.length + 1) cap).ownBlock = lv.ownBlock ∨ (Value.slice (some ⟨g, 0, none⟩) (L.length + 1) cap).ownBlock = some (w.heap.size + 1)) := hat
  clear hat hv hown' hgrow hT'
  go_wp2
  go_end0
  refine ⟨rfl, _, World.cell?_setCell_same _ _ _ c0, by simpa using g0, ?_, HA.out, hT.setCell (p := ⟨vb, 0, none⟩) (fun _ => .inl rfl) _⟩
  have := ownsRow_setCell_below O0 (a := ⟨vb, 0, none⟩) hvb (.slice (some ⟨g, 0, none⟩) (L.length + 1) cap)
  simpa using this

set_option maxRecDepth 100000 in
set_option maxHeartbeats 800000 in
/-- (*zzs3076avis).AddLine: one byte more in the log. -/
theorem addLine_any (w : World) (vb base : Nat) (lv : Value) (L : List Int) (hl : w.cell? ⟨vb, 0, none⟩ = some lv) (hz : w.frozen? ⟨vb, 0, none⟩ = false) (hvb : vb < base) (hbase : base ≤ w.heap.size)
    (hown : w.ownsRow base 5 1 lv L.length (L.map (Value.int .u8))) (hn : L.length ≤ 4096) (tx : Value) :
    Calls Ybaf.prog 27 #[.pointer (some ⟨vb, 0, none⟩), tx] w fun e w' => e = .returned (.tuple #[]) ∧
      ∃ lv', w'.cell? ⟨vb, 0, none⟩ = some lv' ∧ w'.frozen? ⟨vb, 0, none⟩ = false ∧ w'.ownsRow base 5 1 lv' (L ++ [65]).length ((L ++ [65]).map (Value.int .u8)) ∧
        (lv'.ownBlock = lv.ownBlock ∨ lv'.ownBlock = some (w.heap.size + 1)) ∧ Turned (fun k => k = vb ∨ lv.ownBlock = some k) w w' := by
  obtain ⟨i0, hi, hz0, hz1, hz2⟩ := info_parts info5
  go_enter Ybaf.func27, Ybaf.ntmps27
  go_wp2_with (at_builtin; refine wpList_append_own_at _ rfl _ _ 22 rfl base 5 i0 (.int .u8 0) 1 1 Ybaf.underlying22 hi hz0 hz1 hz2 rfl (by decide) lv L.length (L.map (Value.int .u8)) rfl (hown.alloc _) ⟨w.heap.size, 0, none⟩ 1 1 [.int .u8 65] rfl rfl (cell_one_new _ _ _) ?c2 ?c3 ?c4 ?c5 ?_)
  case c2 => intro u hu; simp at hu; subst hu; rfl
  case c3 => unfold maxLen; omega
  case c4 => omega
  case c5 => simp; omega
  intro v' w1 hown' hgrow _ hat
  have hne : lv.ownBlock ≠ some vb := fun e => by have := hown.lt vb e; omega
  have hT : Turned (fun k => k = vb ∨ lv.ownBlock = some k) w w1 := ((Turned.refl _ w).alloc _).grown hgrow (fun j e _ => .inr e)
  have hT' : Turned (fun k => lv.ownBlock = some k) w w1 := ((Turned.refl _ w).alloc _).grown hgrow (fun j e _ => e)
  have c0 : w1.cell? ⟨vb, 0, none⟩ = some lv := (hT'.cell (by exact Nat.lt_of_lt_of_le hvb hbase) hne).trans hl
  have g0 : w1.frozen? ⟨vb, 0, none⟩ = false := (hT'.frozen (by exact Nat.lt_of_lt_of_le hvb hbase) hne).trans hz
  have O0 : w1.ownsRow base 5 1 v' (L ++ [65]).length ((L ++ [65]).map (Value.int .u8)) := by simpa using hown'
  obtain ⟨g, cap, hv⟩ : ∃ g cap, v' = .slice (some ⟨g, 0, none⟩) (L.length + 1) cap := Go.Joins.ownsRow_form hown' (by omega)
  rw [hv] at O0 hat ⊢
  have hlt := O0.lt
  have HA : Hid ((Value.slice (some ⟨g, 0, none⟩) (L.length + 1) cap).ownBlock = lv.ownBlock ∨ (Value.slice (some ⟨g, 0, none⟩) (L.length + 1) cap).ownBlock = some (w.heap.size + 1)) := hat
  clear hat hv hown' hgrow hT'
  go_wp2
  go_end0
  refine ⟨rfl, _, World.cell?_setCell_same _ _ _ c0, by simpa using g0, ?_, HA.out, hT.setCell (p := ⟨vb, 0, none⟩) (fun _ => .inl rfl) _⟩
  have := ownsRow_setCell_below O0 (a := ⟨vb, 0, none⟩) hvb (.slice (some ⟨g, 0, none⟩) (L.length + 1) cap)
  simpa using this

set_option maxRecDepth 100000 in
set_option maxHeartbeats 800000 in
/-- (*zzs3076avis).KeepLine: one byte more in the log. -/
theorem keepLine_any (w : World) (vb base : Nat) (lv : Value) (L : List Int) (hl : w.cell? ⟨vb, 0, none⟩ = some lv) (hz : w.frozen? ⟨vb, 0, none⟩ = false) (hvb : vb < base) (hbase : base ≤ w.heap.size)
    (hown : w.ownsRow base 5 1 lv L.length (L.map (Value.int .u8))) (hn : L.length ≤ 4096) (tx : Value) :
    Calls Ybaf.prog 30 #[.pointer (some ⟨vb, 0, none⟩), tx] w fun e w' => e = .returned (.tuple #[]) ∧
      ∃ lv', w'.cell? ⟨vb, 0, none⟩ = some lv' ∧ w'.frozen? ⟨vb, 0, none⟩ = false ∧ w'.ownsRow base 5 1 lv' (L ++ [75]).length ((L ++ [75]).map (Value.int .u8)) ∧
        (lv'.ownBlock = lv.ownBlock ∨ lv'.ownBlock = some (w.heap.size + 1)) ∧ Turned (fun k => k = vb ∨ lv.ownBlock = some k) w w' := by
  obtain ⟨i0, hi, hz0, hz1, hz2⟩ := info_parts info5
  go_enter Ybaf.func30, Ybaf.ntmps30
  go_wp2_with (at_builtin; refine wpList_append_own_at _ rfl _ _ 22 rfl base 5 i0 (.int .u8 0) 1 1 Ybaf.underlying22 hi hz0 hz1 hz2 rfl (by decide) lv L.length (L.map (Value.int .u8)) rfl (hown.alloc _) ⟨w.heap.size, 0, none⟩ 1 1 [.int .u8 75] rfl rfl (cell_one_new _ _ _) ?c2 ?c3 ?c4 ?c5 ?_)
  case c2 => intro u hu; simp at hu; subst hu; rfl
  case c3 => unfold maxLen; omega
  case c4 => omega
  case c5 => simp; omega
  intro v' w1 hown' hgrow _ hat
  have hne : lv.ownBlock ≠ some vb := fun e => by have := hown.lt vb e; omega
  have hT : Turned (fun k => k = vb ∨ lv.ownBlock = some k) w w1 := ((Turned.refl _ w).alloc _).grown hgrow (fun j e _ => .inr e)
  have hT' : Turned (fun k => lv.ownBlock = some k) w w1 := ((Turned.refl _ w).alloc _).grown hgrow (fun j e _ => e)
  have c0 : w1.cell? ⟨vb, 0, none⟩ = some lv := (hT'.cell (by exact Nat.lt_of_lt_of_le hvb hbase) hne).trans hl
  have g0 : w1.frozen? ⟨vb, 0, none⟩ = false := (hT'.frozen (by exact Nat.lt_of_lt_of_le hvb hbase) hne).trans hz
  have O0 : w1.ownsRow base 5 1 v' (L ++ [75]).length ((L ++ [75]).map (Value.int .u8)) := by simpa using hown'
  obtain ⟨g, cap, hv⟩ : ∃ g cap, v' = .slice (some ⟨g, 0, none⟩) (L.length + 1) cap := Go.Joins.ownsRow_form hown' (by omega)
  rw [hv] at O0 hat ⊢
  have hlt := O0.lt
  have HA : Hid ((Value.slice (some ⟨g, 0, none⟩) (L.length + 1) cap).ownBlock = lv.ownBlock ∨ (Value.slice (some ⟨g, 0, none⟩) (L.length + 1) cap).ownBlock = some (w.heap.size + 1)) := hat
  clear hat hv hown' hgrow hT'
  go_wp2
  go_end0
  refine ⟨rfl, _, World.cell?_setCell_same _ _ _ c0, by simpa using g0, ?_, HA.out, hT.setCell (p := ⟨vb, 0, none⟩) (fun _ => .inl rfl) _⟩
  have := ownsRow_setCell_below O0 (a := ⟨vb, 0, none⟩) hvb (.slice (some ⟨g, 0, none⟩) (L.length + 1) cap)
  simpa using this

set_option maxRecDepth 100000 in
set_option maxHeartbeats 800000 in
/-- (*zzs3076avis).RemoveLine: one byte more in the log. -/
theorem removeLine_any (w : World) (vb base : Nat) (lv : Value) (L : List Int) (hl : w.cell? ⟨vb, 0, none⟩ = some lv) (hz : w.frozen? ⟨vb, 0, none⟩ = false) (hvb : vb < base) (hbase : base ≤ w.heap.size)
    (hown : w.ownsRow base 5 1 lv L.length (L.map (Value.int .u8))) (hn : L.length ≤ 4096) (tx : Value) :
    Calls Ybaf.prog 31 #[.pointer (some ⟨vb, 0, none⟩), tx] w fun e w' => e = .returned (.tuple #[]) ∧
      ∃ lv', w'.cell? ⟨vb, 0, none⟩ = some lv' ∧ w'.frozen? ⟨vb, 0, none⟩ = false ∧ w'.ownsRow base 5 1 lv' (L ++ [82]).length ((L ++ [82]).map (Value.int .u8)) ∧
        (lv'.ownBlock = lv.ownBlock ∨ lv'.ownBlock = some (w.heap.size + 1)) ∧ Turned (fun k => k = vb ∨ lv.ownBlock = some k) w w' := by
  obtain ⟨i0, hi, hz0, hz1, hz2⟩ := info_parts info5
  go_enter Ybaf.func31, Ybaf.ntmps31
  go_wp2_with (at_builtin; refine wpList_append_own_at _ rfl _ _ 22 rfl base 5 i0 (.int .u8 0) 1 1 Ybaf.underlying22 hi hz0 hz1 hz2 rfl (by decide) lv L.length (L.map (Value.int .u8)) rfl (hown.alloc _) ⟨w.heap.size, 0, none⟩ 1 1 [.int .u8 82] rfl rfl (cell_one_new _ _ _) ?c2 ?c3 ?c4 ?c5 ?_)
  case c2 => intro u hu; simp at hu; subst hu; rfl
  case c3 => unfold maxLen; omega
  case c4 => omega
  case c5 => simp; omega
  intro v' w1 hown' hgrow _ hat
  have hne : lv.ownBlock ≠ some vb := fun e => by have := hown.lt vb e; omega
  have hT : Turned (fun k => k = vb ∨ lv.ownBlock = some k) w w1 := ((Turned.refl _ w).alloc _).grown hgrow (fun j e _ => .inr e)
  have hT' : Turned (fun k => lv.ownBlock = some k) w w1 := ((Turned.refl _ w).alloc _).grown hgrow (fun j e _ => e)
  have c0 : w1.cell? ⟨vb, 0, none⟩ = some lv := (hT'.cell (by exact Nat.lt_of_lt_of_le hvb hbase) hne).trans hl
  have g0 : w1.frozen? ⟨vb, 0, none⟩ = false := (hT'.frozen (by exact Nat.lt_of_lt_of_le hvb hbase) hne).trans hz
  have O0 : w1.ownsRow base 5 1 v' (L ++ [82]).length ((L ++ [82]).map (Value.int .u8)) := by simpa using hown'
  obtain ⟨g, cap, hv⟩ : ∃ g cap, v' = .slice (some ⟨g, 0, none⟩) (L.length + 1) cap := Go.Joins.ownsRow_form hown' (by omega)
  rw [hv] at O0 hat ⊢
  have hlt := O0.lt
  have HA : Hid ((Value.slice (some ⟨g, 0, none⟩) (L.length + 1) cap).ownBlock = lv.ownBlock ∨ (Value.slice (some ⟨g, 0, none⟩) (L.length + 1) cap).ownBlock = some (w.heap.size + 1)) := hat
  clear hat hv hown' hgrow hT'
  go_wp2
  go_end0
  refine ⟨rfl, _, World.cell?_setCell_same _ _ _ c0, by simpa using g0, ?_, HA.out, hT.setCell (p := ⟨vb, 0, none⟩) (fun _ => .inl rfl) _⟩
  have := ownsRow_setCell_below O0 (a := ⟨vb, 0, none⟩) hvb (.slice (some ⟨g, 0, none⟩) (L.length + 1) cap)
  simpa using this

/-- What the parser's memory holds, as far as the law looks: the visitor, the state, the counts. -/
structure ParserAt (w : World) (pb vb : Nat) (st old new : Int) : Prop where
  v : w.cell? ⟨pb, 0, none⟩ = some (.iface 23 (.pointer (some ⟨vb, 0, none⟩)))
  state : w.cell? ⟨pb, 1, none⟩ = some (.int .i64 st)
  old : w.cell? ⟨pb, 4, none⟩ = some (.int .i64 old)
  new : w.cell? ⟨pb, 5, none⟩ = some (.int .i64 new)
  zero : ∀ i, w.frozen? ⟨pb, i, none⟩ = false

set_option maxRecDepth 100000 in
set_option maxHeartbeats 800000 in
theorem close_done (w : World) (pb vb base : Nat) (st : Int) (lv : Value) (L : List Int) (hP : ParserAt w pb vb st 0 0) (hpv : pb ≠ vb) (hpb : pb < base)
    (hl : w.cell? ⟨vb, 0, none⟩ = some lv) (hz : w.frozen? ⟨vb, 0, none⟩ = false) (hvb : vb < base) (hbase : base ≤ w.heap.size)
    (hown : w.ownsRow base 5 1 lv L.length (L.map (Value.int .u8))) (hn : L.length ≤ 4096) :
    Calls Ybaf.prog 8 #[.pointer (some ⟨pb, 0, none⟩)] w fun e w' => e = .returned (.tuple #[]) ∧
      ∃ lv', w'.cell? ⟨pb, 1, none⟩ = some (.int .i64 3) ∧ (∀ i, i ≠ 1 → w'.cell? ⟨pb, i, none⟩ = w.cell? ⟨pb, i, none⟩) ∧ (∀ i, w'.frozen? ⟨pb, i, none⟩ = false) ∧
        w'.cell? ⟨vb, 0, none⟩ = some lv' ∧ w'.frozen? ⟨vb, 0, none⟩ = false ∧ w'.ownsRow base 5 1 lv' (L ++ [69]).length ((L ++ [69]).map (Value.int .u8)) ∧
        (lv'.ownBlock = lv.ownBlock ∨ lv'.ownBlock = some (w.heap.size + 1)) ∧ Turned (fun k => k = pb ∨ k = vb ∨ lv.ownBlock = some k) w w' := by
  obtain ⟨p0, p1, p4, p5, pz⟩ := hP
  go_enter Ybaf.func8, Ybaf.ntmps8
  go_wp2_with fail
  refine (endHunk_any w vb base lv L hl hz hvb hbase hown hn).mono ?_
  rintro e w1 ⟨rfl, lv', hl', hz', hown', hat, hT⟩
  have hlt : pb < w.heap.size := by omega
  have hn1 : ¬ (pb = vb ∨ lv.ownBlock = some pb) := by
    rintro (h | h)
    · exact hpv h
    · have := hown.lt pb h; omega
  have hc : ∀ i, w1.cell? ⟨pb, i, none⟩ = w.cell? ⟨pb, i, none⟩ := fun i => hT.cell hlt hn1
  have hf : ∀ i, w1.frozen? ⟨pb, i, none⟩ = false := fun i => (hT.frozen hlt hn1).trans (pz i)
  have c1 : w1.cell? ⟨pb, 1, none⟩ = some (.int .i64 st) := (hc 1).trans p1
  have g1 := hf 1
  have HC : Hid (∀ i, w1.cell? ⟨pb, i, none⟩ = w.cell? ⟨pb, i, none⟩) := hc
  have HF : Hid (∀ i, w1.frozen? ⟨pb, i, none⟩ = false) := hf
  have HL : Hid (w1.cell? ⟨vb, 0, none⟩ = some lv') := hl'
  have HZ : Hid (w1.frozen? ⟨vb, 0, none⟩ = false) := hz'
  have HA : Hid (lv'.ownBlock = lv.ownBlock ∨ lv'.ownBlock = some (w.heap.size + 1)) := hat
  clear hc hf hl' hz' hat p0 p1 p4 p5 pz hl hz
  go_wp2
  go_end0
  refine ⟨rfl, lv', World.cell?_setCell_same _ _ _ c1, fun i hi => (World.cell?_setCell_other _ ⟨pb, 1, none⟩ ⟨pb, i, none⟩ _ (by simp <;> omega)).trans (HC.out i), fun i => by simpa using HF.out i,
    (World.cell?_setCell_other _ ⟨pb, 1, none⟩ ⟨vb, 0, none⟩ _ (by simp)).trans HL.out, by simpa using HZ.out, ?_, HA.out, ?_⟩
  · simpa using ownsRow_setCell_below hown' (a := ⟨pb, 1, none⟩) hpb (.int .i64 3)
  · exact (hT.mono (fun j _ h => .inr h)).setCell (p := ⟨pb, 1, none⟩) (fun _ => .inl rfl) _

set_option maxRecDepth 100000 in
set_option maxHeartbeats 800000 in
theorem close_not (w : World) (pb vb : Nat) (st old new : Int) (hP : ParserAt w pb vb st old new) (h : old ≠ 0 ∨ new ≠ 0) :
    Calls Ybaf.prog 8 #[.pointer (some ⟨pb, 0, none⟩)] w fun e w' => e = .returned (.tuple #[]) ∧ w' = w := by
  obtain ⟨p0, p1, p4, p5, pz⟩ := hP
  by_cases ho : old = 0
  · subst ho
    have hn : (new == 0) = false := by simpa using h
    clear h pz
    go_enter Ybaf.func8, Ybaf.ntmps8
    go_wp2
    go_end0
    exact ⟨rfl, rfl⟩
  · have hn : (old == 0) = false := by simpa using ho
    clear h pz
    go_enter Ybaf.func8, Ybaf.ntmps8
    go_wp2
    go_end0
    exact ⟨rfl, rfl⟩
end Go.Proofs.YbulkbkriFmt
