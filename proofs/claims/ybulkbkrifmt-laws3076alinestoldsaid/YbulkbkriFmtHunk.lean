import Derived.Test.YbulkbkriFmtFacts
import Derived.Test.YbulkbkriFmtClose
import Derived.WideLaws
import Derived.Deep.QuietTactic
import Derived.BigQuiet
import Derived.Deep.RegionWith
import Derived.BigRegion
namespace Go.Proofs.YbulkbkriFmt
open Go.RowKit Go.Extern.Stop Go.Stop Go.Extern
attribute [local go_sem] call9 call11 guard fmt0 fmt0r fmt1 fmt1r op3_100 op3_100w op9_115 op9_115w strict3 strict9 ptr46 elem46 isError46 ptr44 elem44 isError44

set_option maxHeartbeats 400000 in
/-- quote of a line of two bytes: some text; nothing that was there turns. -/
theorem quote_any (F : Interp) (lb : Nat) (c : Int) (w : World) (hF : F.answers w.tape) (h0 : w.cell? ⟨lb, 0, none⟩ = some (.int .u8 c)) (h1 : w.cell? ⟨lb, 1, none⟩ = some (.int .u8 120)) :
    Calls Ybaf.prog 7 #[.slice (some ⟨lb, 0, none⟩) 2 2] w fun e w' => ∃ s, e = .returned (.string s) ∧ Below w.heap.size w w' := by
  have hF' := answers_open hF
  obtain ⟨sh, hsh⟩ := opBytes_113
  have hop : ∀ (o : Obj), (FmtStop.operand "fmt.Sprintf" false 113 false (.iface 22 (.slice (some ⟨lb, 0, none⟩) 2 2))).run Ybaf.prog (w.alloc o) = .ok (sh, 1 :: (digits 8 2 ++ FmtText.intValues [c, 120])) (w.alloc o) := fun o =>
    hsh "fmt.Sprintf" ⟨lb, 0, none⟩ 2 [c, 120] (w.alloc o) (fun j v hj => cell_later ((Below.refl _ w).alloc (Nat.le_refl _) o) (by
      match j, hj with
      | 0, hj => simp at hj; subst hj; simpa [Addr.add] using h0
      | 1, hj => simp at hj; subst hj; simpa [Addr.add] using h1))
  clear hsh
  go_enter Ybaf.func7, Ybaf.ntmps7
  go_wp2
  go_ret
  exact ⟨_, rfl, ((Below.refl _ w).alloc (Nat.le_refl _) _).drew⟩

set_option maxHeartbeats 400000 in
/-- fmt.Errorf at hunkLine's format: an error that is not nil. -/
theorem errorf_any (F : Interp) (xb : Nat) (s : ByteArray) (a b : Int) (w : World) (hF : F.answers w.tape) (h0 : w.cell? ⟨xb, 0, none⟩ = some (.iface 9 (.string s))) (h1 : w.cell? ⟨xb, 1, none⟩ = some (.iface 3 (.int .i64 a))) (h2 : w.cell? ⟨xb, 2, none⟩ = some (.iface 3 (.int .i64 b))) :
    Calls Ybaf.prog 6 #[.string ⟨#[37, 115, 32, 119, 104, 101, 114, 101, 32, 116, 104, 101, 32, 104, 117, 110, 107, 32, 104, 97, 115, 32, 37, 100, 32, 111, 108, 100, 32, 97, 110, 100, 32, 37, 100, 32, 110, 101, 119, 32, 108, 105, 110, 101, 115, 32, 115, 116, 105, 108, 108, 32, 116, 111, 32, 99, 111, 109, 101]⟩, .slice (some ⟨xb, 0, none⟩) 3 3] w fun e w' =>
      ∃ p, e = .returned (.iface 46 (.pointer (some p))) ∧ Below w.heap.size w w' := by
  have hF' := answers_open hF
  go_enter Ybaf.func6, Ybaf.ntmps6
  go_wp2
  go_ret
  exact ⟨_, rfl, ((Below.refl _ w).alloc (Nat.le_refl _) _).drew⟩

/-- The parser and its visitor in memory: state, counts, the log. -/
structure HAt (pb vb base : Nat) (w : World) (st old new : Int) (lv : Value) (L : List Int) : Prop where
  P : ParserAt w pb vb st old new
  log : w.cell? ⟨vb, 0, none⟩ = some lv
  zero : w.frozen? ⟨vb, 0, none⟩ = false
  owns : w.ownsRow base 5 1 lv L.length (L.map (Value.int .u8))
  hpv : pb ≠ vb
  hpb : pb < base
  hvb : vb < base
  hbase : base ≤ w.heap.size

/-- What a step of the parser's leaves: the new state; of what was there only the parser, the visitor and the log's row have turned. -/
def HStep (pb vb base : Nat) (w : World) (lv : Value) (st old new : Int) (L : List Int) (w' : World) : Prop :=
  ∃ lv', HAt pb vb base w' st old new lv' L ∧ (∀ j, lv'.ownBlock = some j → lv.ownBlock = some j ∨ w.heap.size ≤ j) ∧ Turned (fun k => k = pb ∨ k = vb ∨ lv.ownBlock = some k) w w'

section
variable {pb vb base : Nat} {w w1 w2 : World} {st old new : Int} {lv lv1 : Value} {L : List Int}
theorem HStep.trans {st' old' new' : Int} {L' : List Int} (hb : ∀ j, lv1.ownBlock = some j → lv.ownBlock = some j ∨ w.heap.size ≤ j) (hT : Turned (fun k => k = pb ∨ k = vb ∨ lv.ownBlock = some k) w w1)
    (h : HStep pb vb base w1 lv1 st' old' new' L' w2) : HStep pb vb base w lv st' old' new' L' w2 := by
  obtain ⟨lv2, hA, hb2, hT2⟩ := h
  refine ⟨lv2, hA, fun j hj => ?_, hT.trans' hT2 ?_⟩
  · rcases hb2 j hj with h | h
    · exact hb j h
    · exact .inr (Nat.le_trans hT.size h)
  · rintro j hj (h | h | h)
    · exact .inl h
    · exact .inr (.inl h)
    · rcases hb j h with h | h
      · exact .inr (.inr h)
      · omega
/-- A method of the visitor's that appends one byte. -/
theorem HStep.logged {c : Int} {lv' : Value} (hA : HAt pb vb base w st old new lv L) (hl : w1.cell? ⟨vb, 0, none⟩ = some lv') (hz : w1.frozen? ⟨vb, 0, none⟩ = false) (ho : w1.ownsRow base 5 1 lv' (L ++ [c]).length ((L ++ [c]).map (Value.int .u8)))
    (hat : lv'.ownBlock = lv.ownBlock ∨ lv'.ownBlock = some (w.heap.size + 1)) (hT : Turned (fun k => k = vb ∨ lv.ownBlock = some k) w w1) : HStep pb vb base w lv st old new (L ++ [c]) w1 := by
  obtain ⟨⟨p0, p1, p4, p5, pz⟩, hlog, hzero, hown, hpv, hpb, hvb, hbase⟩ := hA
  have hlt : pb < w.heap.size := by omega
  have hn : ¬ (pb = vb ∨ lv.ownBlock = some pb) := by
    rintro (h | h)
    · exact hpv h
    · have := hown.lt pb h; omega
  have e : ∀ i, w1.cell? ⟨pb, i, none⟩ = w.cell? ⟨pb, i, none⟩ := fun i => hT.cell hlt hn
  refine ⟨lv', ⟨⟨(e 0).trans p0, (e 1).trans p1, (e 4).trans p4, (e 5).trans p5, fun i => (hT.frozen hlt hn).trans (pz i)⟩, hl, hz, ho, hpv, hpb, hvb, Nat.le_trans hbase hT.size⟩, fun j hj => ?_, hT.mono (fun j _ h => .inr h)⟩
  rcases hat with h | h
  · exact .inl (h.symm.trans hj)
  · rw [h] at hj; simp at hj; exact .inr (by omega)
theorem keep_step (hA : HAt pb vb base w st old new lv L) (hn : L.length ≤ 4096) (tx : Value) :
    Calls Ybaf.prog 30 #[.pointer (some ⟨vb, 0, none⟩), tx] w fun e w' => e = .returned (.tuple #[]) ∧ HStep pb vb base w lv st old new (L ++ [75]) w' :=
  (keepLine_any w vb base lv L hA.log hA.zero hA.hvb hA.hbase hA.owns hn tx).mono fun _ _ ⟨he, _, h1, h2, h3, h4, h5⟩ => ⟨he, HStep.logged hA h1 h2 h3 h4 h5⟩
theorem remove_step (hA : HAt pb vb base w st old new lv L) (hn : L.length ≤ 4096) (tx : Value) :
    Calls Ybaf.prog 31 #[.pointer (some ⟨vb, 0, none⟩), tx] w fun e w' => e = .returned (.tuple #[]) ∧ HStep pb vb base w lv st old new (L ++ [82]) w' :=
  (removeLine_any w vb base lv L hA.log hA.zero hA.hvb hA.hbase hA.owns hn tx).mono fun _ _ ⟨he, _, h1, h2, h3, h4, h5⟩ => ⟨he, HStep.logged hA h1 h2 h3 h4 h5⟩
theorem add_step (hA : HAt pb vb base w st old new lv L) (hn : L.length ≤ 4096) (tx : Value) :
    Calls Ybaf.prog 27 #[.pointer (some ⟨vb, 0, none⟩), tx] w fun e w' => e = .returned (.tuple #[]) ∧ HStep pb vb base w lv st old new (L ++ [65]) w' :=
  (addLine_any w vb base lv L hA.log hA.zero hA.hvb hA.hbase hA.owns hn tx).mono fun _ _ ⟨he, _, h1, h2, h3, h4, h5⟩ => ⟨he, HStep.logged hA h1 h2 h3 h4 h5⟩

/-- closeHunkIfDone, in plain words. -/
def closeS (st old new : Int) : Int := if old = 0 ∧ new = 0 then 3 else st
def closeL (L : List Int) (old new : Int) : List Int := if old = 0 ∧ new = 0 then L ++ [69] else L
theorem close_step (hA : HAt pb vb base w st old new lv L) (hn : L.length ≤ 4096) :
    Calls Ybaf.prog 8 #[.pointer (some ⟨pb, 0, none⟩)] w fun e w' => e = .returned (.tuple #[]) ∧ HStep pb vb base w lv (closeS st old new) old new (closeL L old new) w' := by
  by_cases h : old = 0 ∧ new = 0
  · obtain ⟨rfl, rfl⟩ := h
    refine (close_done w pb vb base st lv L hA.P hA.hpv hA.hpb hA.log hA.zero hA.hvb hA.hbase hA.owns hn).mono ?_
    rintro e w' ⟨he, lv', c1, hci, hfi, hl, hlz, ho, hat, hT⟩
    refine ⟨he, lv', ⟨⟨(hci 0 (by omega)).trans hA.P.v, c1, (hci 4 (by omega)).trans hA.P.old, (hci 5 (by omega)).trans hA.P.new, hfi⟩, hl, hlz, ho, hA.hpv, hA.hpb, hA.hvb, Nat.le_trans hA.hbase hT.size⟩, fun j hj => ?_, hT⟩
    rcases hat with h | h
    · exact .inl (h.symm.trans hj)
    · rw [h] at hj; simp at hj; exact .inr (by omega)
  · refine (close_not w pb vb st old new hA.P (by omega)).mono ?_
    rintro e w' ⟨he, rfl⟩
    refine ⟨he, lv, ?_, fun j hj => .inl hj, Turned.refl _ _⟩
    simp only [closeS, closeL, if_neg h]
    exact hA
theorem HAt.drewN (hA : HAt pb vb base w st old new lv L) (n : Nat) : HAt pb vb base (w.drewN n) st old new lv L := ⟨⟨hA.P.v, hA.P.state, hA.P.old, hA.P.new, hA.P.zero⟩, hA.log, hA.zero, hA.owns, hA.hpv, hA.hpb, hA.hvb, hA.hbase⟩
theorem HAt.setOld (hA : HAt pb vb base w st old new lv L) (x : Int) : HAt pb vb base (w.setCell ⟨pb, 4, none⟩ (.int .i64 x)) st x new lv L :=
  have o : ∀ i, i ≠ 4 → (w.setCell ⟨pb, 4, none⟩ (.int .i64 x)).cell? ⟨pb, i, none⟩ = w.cell? ⟨pb, i, none⟩ := fun i hi => World.cell?_setCell_other _ ⟨pb, 4, none⟩ ⟨pb, i, none⟩ _ (by simp <;> omega)
  have hpv := hA.hpv
  ⟨⟨(o 0 (by omega)).trans hA.P.v, (o 1 (by omega)).trans hA.P.state, World.cell?_setCell_same _ _ _ hA.P.old, (o 5 (by omega)).trans hA.P.new, fun i => by simpa using hA.P.zero i⟩,
    (World.cell?_setCell_other _ ⟨pb, 4, none⟩ ⟨vb, 0, none⟩ _ (by simp)).trans hA.log, by simpa using hA.zero, ownsRow_setCell_below hA.owns (a := ⟨pb, 4, none⟩) hA.hpb _, hA.hpv, hA.hpb, hA.hvb, by simpa using hA.hbase⟩
theorem HAt.setNew (hA : HAt pb vb base w st old new lv L) (x : Int) : HAt pb vb base (w.setCell ⟨pb, 5, none⟩ (.int .i64 x)) st old x lv L :=
  have o : ∀ i, i ≠ 5 → (w.setCell ⟨pb, 5, none⟩ (.int .i64 x)).cell? ⟨pb, i, none⟩ = w.cell? ⟨pb, i, none⟩ := fun i hi => World.cell?_setCell_other _ ⟨pb, 5, none⟩ ⟨pb, i, none⟩ _ (by simp <;> omega)
  ⟨⟨(o 0 (by omega)).trans hA.P.v, (o 1 (by omega)).trans hA.P.state, (o 4 (by omega)).trans hA.P.old, World.cell?_setCell_same _ _ _ hA.P.new, fun i => by simpa using hA.P.zero i⟩,
    (World.cell?_setCell_other _ ⟨pb, 5, none⟩ ⟨vb, 0, none⟩ _ (by simp)).trans hA.log, by simpa using hA.zero, ownsRow_setCell_below hA.owns (a := ⟨pb, 5, none⟩) hA.hpb _, hA.hpv, hA.hpb, hA.hvb, by simpa using hA.hbase⟩
end
end Go.Proofs.YbulkbkriFmt
