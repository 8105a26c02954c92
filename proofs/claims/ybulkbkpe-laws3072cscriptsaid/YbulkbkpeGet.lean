import Derived.Test.YbulkbkpeSlots
import Derived.Deep.QuietTactic
import Derived.BigQuiet
import Derived.BigRegion
import Derived.RegionTactic
namespace Go.Proofs.Ybulkbkpe
open Go.RowKit Go.MuLone Go.Conc

/-- The mutex taken, one field stored, the mutex let go: the world behind. -/
def locked (w : World) (sb i : Nat) (v : Value) : World := ((w.setCell ⟨sb, 2, none⟩ (.int .i32 1)).setCell ⟨sb, i, none⟩ v).setCell ⟨sb, 2, none⟩ (.int .i32 0)
theorem locked_turned (w : World) (sb i : Nat) (v : Value) : Turned (fun k => k = sb) w (locked w sb i v) :=
  (((Turned.refl (fun k => k = sb) w).setCell (p := ⟨sb, 2, none⟩) (fun _ => rfl) _).setCell (p := ⟨sb, i, none⟩) (fun _ => rfl) _).setCell (p := ⟨sb, 2, none⟩) (fun _ => rfl) _
theorem locked_other (w : World) (sb i j : Nat) (v : Value) (h2 : j ≠ 2) (hi : j ≠ i) : (locked w sb i v).cell? ⟨sb, j, none⟩ = w.cell? ⟨sb, j, none⟩ := by
  unfold locked
  rw [World.cell?_setCell_other _ ⟨sb, 2, none⟩ ⟨sb, j, none⟩ _ (by simp <;> omega), World.cell?_setCell_other _ ⟨sb, i, none⟩ ⟨sb, j, none⟩ _ (by simp <;> omega), World.cell?_setCell_other _ ⟨sb, 2, none⟩ ⟨sb, j, none⟩ _ (by simp <;> omega)]
theorem locked_field (w : World) (sb i : Nat) (v u : Value) (hi : i ≠ 2) (h : w.cell? ⟨sb, i, none⟩ = some u) : (locked w sb i v).cell? ⟨sb, i, none⟩ = some v := by
  unfold locked
  rw [World.cell?_setCell_other _ ⟨sb, 2, none⟩ ⟨sb, i, none⟩ _ (by simp <;> omega)]
  exact World.cell?_setCell_same _ _ _ ((World.cell?_setCell_other _ ⟨sb, 2, none⟩ ⟨sb, i, none⟩ _ (by simp <;> omega)).trans h)
theorem locked_state (w : World) (sb i : Nat) (v : Value) (hi : i ≠ 2) (h : w.cell? ⟨sb, 2, none⟩ = some (.int .i32 0)) : (locked w sb i v).cell? ⟨sb, 2, none⟩ = some (.int .i32 0) := by
  unfold locked
  exact World.cell?_setCell_same _ _ _ ((World.cell?_setCell_other _ ⟨sb, i, none⟩ ⟨sb, 2, none⟩ _ (by simp <;> omega)).trans (World.cell?_setCell_same _ _ _ h))
theorem locked_frozen (w : World) (sb i j : Nat) (v : Value) : (locked w sb i v).frozen? ⟨sb, j, none⟩ = w.frozen? ⟨sb, j, none⟩ := by
  simp [locked]
theorem locked_chan (w : World) (sb i c : Nat) (v : Value) (h : c ≠ sb) : (locked w sb i v).heap[c]? = w.heap[c]? := by
  unfold locked
  rw [Below.heap_setCell _ _ _ _ h, Below.heap_setCell _ _ _ _ h, Below.heap_setCell _ _ _ _ h]
theorem locked_free {w : World} {sb c : Nat} {wk made : Int} {fv : Value} {tok : Bool} (hS : SlotsAt w sb c wk made fv tok) (hne : c ≠ sb) (v : Value) : SlotsAt (locked w sb 5 v) sb c wk made v tok := by
  obtain ⟨h0, h1, h2, h4, h5, hz, s, r, hch⟩ := hS
  exact ⟨(locked_other _ _ _ _ _ (by omega) (by omega)).trans h0, (locked_other _ _ _ _ _ (by omega) (by omega)).trans h1, locked_state _ _ _ _ (by omega) h2, (locked_other _ _ _ _ _ (by omega) (by omega)).trans h4,
    locked_field _ _ _ _ _ (by omega) h5, fun i => (locked_frozen _ _ _ _ _).trans (hz i), s, r, (locked_chan _ _ _ _ _ hne).trans hch⟩
theorem locked_made {w : World} {sb c : Nat} {wk made : Int} {fv : Value} {tok : Bool} (hS : SlotsAt w sb c wk made fv tok) (hne : c ≠ sb) (m : Int) : SlotsAt (locked w sb 4 (.int .i64 m)) sb c wk m fv tok := by
  obtain ⟨h0, h1, h2, h4, h5, hz, s, r, hch⟩ := hS
  exact ⟨(locked_other _ _ _ _ _ (by omega) (by omega)).trans h0, (locked_other _ _ _ _ _ (by omega) (by omega)).trans h1, locked_state _ _ _ _ (by omega) h2, locked_field _ _ _ _ _ (by omega) h4,
    (locked_other _ _ _ _ _ (by omega) (by omega)).trans h5, fun i => (locked_frozen _ _ _ _ _).trans (hz i), s, r, (locked_chan _ _ _ _ _ hne).trans hch⟩
theorem SlotsAt.drew {w : World} {sb c : Nat} {wk made : Int} {fv : Value} {tok : Bool} (hS : SlotsAt w sb c wk made fv tok) : SlotsAt w.drew sb c wk made fv tok := ⟨hS.workers, hS.freed, hS.state, hS.made, hS.free, hS.zero, hS.chan⟩
theorem SlotsAt.drewN {w : World} {sb c : Nat} {wk made : Int} {fv : Value} {tok : Bool} (hS : SlotsAt w sb c wk made fv tok) (n : Nat) : SlotsAt (w.drewN n) sb c wk made fv tok := ⟨hS.workers, hS.freed, hS.state, hS.made, hS.free, hS.zero, hS.chan⟩

set_option maxRecDepth 100000 in
set_option maxHeartbeats 1000000 in
theorem get_pop (w : World) (sb c g n cap : Nat) (wk made x : Int) (tok : Bool) (ctx : Value)
    (hS : SlotsAt w sb c wk made (.slice (some ⟨g, 0, none⟩) (n + 1) cap) tok) (hne : c ≠ sb) (hg : g ≠ sb) (hx : w.cell? ⟨g, n, none⟩ = some (.int .i64 x)) (hx0 : (x == 0) = false) (hn : n ≤ 2048) (hcap : n + 1 ≤ cap) :
    Calls Yba.prog 11 #[.pointer (some ⟨sb, 0, none⟩), ctx] w fun e w' => e = .returned (.int .i64 x) ∧
      SlotsAt w' sb c wk made (.slice (some ⟨g, 0, none⟩) n cap) tok ∧ Turned (fun k => k = sb) w w' := by
  obtain ⟨h0, h1, h2, h4, h5, hz, s, r, hch⟩ := hS
  have z2 := hz 2
  have z5 := hz 5
  go_enter Yba.func11, Yba.ntmps11
  go_wp2
  go_loopw [4] (fun _ wr => wr = w) (fun _ _ => 0)
  case atStart => rfl
  case round =>
    subst hrel
    go_wp2_with (go_at_call 12; refine (lock_free muLib ⟨sb, 2, none⟩ _ h2 z2).mono ?_; rintro e w' ⟨rfl, rfl⟩)
    have c2 : (wr.setCell ⟨sb, 2, none⟩ (.int .i32 1)).cell? ⟨sb, 2, none⟩ = some (.int .i32 1) := World.cell?_setCell_same _ _ _ h2
    have c5 : (wr.setCell ⟨sb, 2, none⟩ (.int .i32 1)).cell? ⟨sb, 5, none⟩ = some (.slice (some ⟨g, 0, none⟩) (n + 1) cap) := (World.cell?_setCell_other _ ⟨sb, 2, none⟩ ⟨sb, 5, none⟩ _ (by simp)).trans h5
    have cg : (wr.setCell ⟨sb, 2, none⟩ (.int .i32 1)).cell? ⟨g, n, none⟩ = some (.int .i64 x) := (World.cell?_setCell_other _ ⟨sb, 2, none⟩ ⟨g, n, none⟩ _ (by simp)).trans hx
    have g5 : (wr.setCell ⟨sb, 2, none⟩ (.int .i32 1)).frozen? ⟨sb, 5, none⟩ = false := by simpa using z5
    have g2 : (wr.setCell ⟨sb, 2, none⟩ (.int .i32 1)).frozen? ⟨sb, 2, none⟩ = false := by simpa using z2
    have HS : SlotsAt wr sb c wk made (.slice (some ⟨g, 0, none⟩) (n + 1) cap) tok := ⟨h0, h1, h2, h4, h5, hz, s, r, hch⟩
    clear h0 h1 h2 h4 h5 hz hch z2 z5 hx
    obtain ⟨W, hW⟩ : ∃ W, W = wr.setCell ⟨sb, 2, none⟩ (.int .i32 1) := ⟨_, rfl⟩
    rw [← hW] at c2 c5 cg g5 g2 ⊢
    have HW : Hid (W = wr.setCell ⟨sb, 2, none⟩ (.int .i32 1)) := hW
    clear hW
    go_region
    go_wp2_with fail
    have u2 : (W.setCell ⟨sb, 5, none⟩ (.slice (some ⟨g, 0, none⟩) n cap)).drew.cell? ⟨sb, 2, none⟩ = some (.int .i32 1) := (World.cell?_setCell_other _ ⟨sb, 5, none⟩ ⟨sb, 2, none⟩ _ (by simp)).trans c2
    refine (unlock_held muLib ⟨sb, 2, none⟩ _ u2 (by simp [g2])).mono ?_
    rintro e w' ⟨rfl, rfl⟩
    clear u2
    go_wp2
    go_ret
    rw [HW.out]
    exact ⟨rfl, (locked_free HS hne _).drew, (locked_turned _ _ _ _).drew⟩

theorem setCell_drewN_out (w : World) (a : Addr) (v : Value) (n : Nat) : (w.setCell a v).drewN n = (w.drewN n).setCell a v := by
  unfold World.drewN World.setCell
  split <;> simp_all
set_option maxRecDepth 100000 in
set_option maxHeartbeats 1000000 in
theorem get_make (w : World) (sb c cap : Nat) (fa : Option Addr) (wk made : Int) (tok : Bool) (ctx : Value)
    (hS : SlotsAt w sb c wk made (.slice fa 0 cap) tok) (hne : c ≠ sb) (h00 : 0 ≤ made) (hlt : made < wk) (hwk : wk ≤ 5) :
    Calls Yba.prog 11 #[.pointer (some ⟨sb, 0, none⟩), ctx] w fun e w' => e = .returned (.int .i64 (made + 1)) ∧
      SlotsAt w' sb c wk (made + 1) (.slice fa 0 cap) tok ∧ Turned (fun k => k = sb) w w' := by
  obtain ⟨h0, h1, h2, h4, h5, hz, s, r, hch⟩ := hS
  have z2 := hz 2
  have z4 := hz 4
  go_enter Yba.func11, Yba.ntmps11
  go_wp2
  go_loopw [4] (fun _ wr => wr = w) (fun _ _ => 0)
  case atStart => rfl
  case round =>
    subst hrel
    go_wp2_with (go_at_call 12; refine (lock_free muLib ⟨sb, 2, none⟩ _ h2 z2).mono ?_; rintro e w' ⟨rfl, rfl⟩)
    have c0 : (wr.setCell ⟨sb, 2, none⟩ (.int .i32 1)).cell? ⟨sb, 0, none⟩ = some (.int .i64 wk) := (World.cell?_setCell_other _ ⟨sb, 2, none⟩ ⟨sb, 0, none⟩ _ (by simp)).trans h0
    have c2 : (wr.setCell ⟨sb, 2, none⟩ (.int .i32 1)).cell? ⟨sb, 2, none⟩ = some (.int .i32 1) := World.cell?_setCell_same _ _ _ h2
    have c4 : (wr.setCell ⟨sb, 2, none⟩ (.int .i32 1)).cell? ⟨sb, 4, none⟩ = some (.int .i64 made) := (World.cell?_setCell_other _ ⟨sb, 2, none⟩ ⟨sb, 4, none⟩ _ (by simp)).trans h4
    have g4 : (wr.setCell ⟨sb, 2, none⟩ (.int .i32 1)).frozen? ⟨sb, 4, none⟩ = false := by simpa using z4
    have g2 : (wr.setCell ⟨sb, 2, none⟩ (.int .i32 1)).frozen? ⟨sb, 2, none⟩ = false := by simpa using z2
    have HS : SlotsAt wr sb c wk made (.slice fa 0 cap) tok := ⟨h0, h1, h2, h4, h5, hz, s, r, hch⟩
    clear h0 h1 h2 h4 h5 hz hch z2 z4
    obtain ⟨W, hW⟩ : ∃ W, W = wr.setCell ⟨sb, 2, none⟩ (.int .i32 1) := ⟨_, rfl⟩
    rw [← hW] at c0 c2 c4 g4 g2 ⊢
    have HW : Hid (W = wr.setCell ⟨sb, 2, none⟩ (.int .i32 1)) := hW
    clear hW
    go_quiet (fail)
    go_wp2_with fail
    have u2 : ((W.drewN nq).setCell ⟨sb, 4, none⟩ (.int .i64 (made + 1))).cell? ⟨sb, 2, none⟩ = some (.int .i32 1) := (World.cell?_setCell_other _ ⟨sb, 4, none⟩ ⟨sb, 2, none⟩ _ (by simp)).trans c2
    refine (unlock_held muLib ⟨sb, 2, none⟩ _ u2 (by simpa using g2)).mono ?_
    rintro e w' ⟨rfl, rfl⟩
    clear u2
    go_wp2
    go_ret
    rw [HW.out, setCell_drewN_out]
    exact ⟨rfl, locked_made (HS.drewN nq) hne _, ((Turned.refl _ _).drewN nq).trans (locked_turned _ _ _ _)⟩
end Go.Proofs.Ybulkbkpe
