import Derived.Test.YbulkbkpeLocks
import Derived.Test.YbulkbkpeSel
import Derived.Conc.MuLone
import Derived.Conc.LoneSelectN
import Derived.Maps.AppendAt
import Derived.WalkKit
import Derived.WalkSpells
import Derived.WalkLawsBesides
import Derived.Laws.EntriesVeiled
import Derived.Deep.Cut
import Derived.Lib.SmallJoins
namespace Go.Proofs.Ybulkbkpe
open Go.RowKit Go.MuLone Go.Conc

theorem bytes33 : ∃ i, Yba.prog.info? 33 = some i ∧ i.bytes = 0 := by
  have h : (Yba.prog.info? 33).map (·.bytes) = some 0 := by kernel_rfl
  obtain ⟨i, hi, hb⟩ := Option.map_eq_some_iff.1 h
  exact ⟨i, hi, hb⟩
theorem mk1 (w : World) : (Instr.makeChan 60 (.int .i64 1)).run Yba.prog w = .ok (.chan (some w.heap.size)) (w.alloc (.chan 1 #[] false 0 0 false)) := by
  obtain ⟨i, hi, hb⟩ := bytes33
  simpa using run_makeChan (P := Yba.prog) (w := w) Yba.underlying60 hi .i64 1 (by omega) (by rw [hb]; omega)

set_option maxHeartbeats 400000 in
theorem newSlots_any (n : Int) (w : World) :
    Calls Yba.prog 8 #[.int .i64 n] w fun e w' => e = .returned (.pointer (some ⟨w.heap.size + 1, 0, none⟩)) ∧
      w' = (w.alloc (.chan 1 #[] false 0 0 false)).alloc (.cells #[.int .i64 n, .chan (some w.heap.size), .int .i32 0, .int .u32 0, .int .i64 0, .slice none 0 0] 62) := by
  have hmc := mk1
  go_enter Yba.func8, Yba.ntmps8
  go_wp2
  go_ret
  exact ⟨rfl, rfl⟩

/-- What the slots' memory holds: the struct at block sb, its channel at block c. -/
structure SlotsAt (w : World) (sb c : Nat) (wk made : Int) (fv : Value) (tok : Bool) : Prop where
  workers : w.cell? ⟨sb, 0, none⟩ = some (.int .i64 wk)
  freed : w.cell? ⟨sb, 1, none⟩ = some (.chan (some c))
  state : w.cell? ⟨sb, 2, none⟩ = some (.int .i32 0)
  made : w.cell? ⟨sb, 4, none⟩ = some (.int .i64 made)
  free : w.cell? ⟨sb, 5, none⟩ = some fv
  zero : ∀ i, w.frozen? ⟨sb, i, none⟩ = false
  chan : ∃ s r, w.heap[c]? = some (.chan 1 (if tok then #[.agg #[]] else #[]) false s r false)

theorem info3 : (Yba.prog.info? 3).map (fun i => (i.zero, i.size, i.bytes)) = some (some (.int .i64 0), 1, 8) := by kernel_rfl

theorem cell_one (w : World) (a : Addr) (u x : Value) (e : TypeId) : ∀ (j : Nat) (v : Value), [x][j]? = some v → ((w.setCell a u).alloc (.cells #[x] e)).cell? ((⟨w.heap.size, 0, none⟩ : Addr).add j) = some v := by
  have h := cell_one_new (w.setCell a u) x e
  have hs : (w.setCell a u).heap.size = w.heap.size := by simp
  rw [hs] at h
  exact h

theorem setChan_other (w : World) (c c' cap : Nat) (buf : Array Value) (closed : Bool) (s r : Nat) (tm : Bool) (h : c ≠ c') : (w.setChan c cap buf closed s r tm).heap[c']? = w.heap[c']? := by
  simp [World.setChan, Array.getElem?_setIfInBounds_ne h]

/-- A slots' memory behind a send into its channel. -/
theorem SlotsAt.sent {w : World} {sb c : Nat} {wk made : Int} {fv : Value} {s r : Nat} (h0 : w.cell? ⟨sb, 0, none⟩ = some (.int .i64 wk)) (h1 : w.cell? ⟨sb, 1, none⟩ = some (.chan (some c))) (h2 : w.cell? ⟨sb, 2, none⟩ = some (.int .i32 0))
    (h4 : w.cell? ⟨sb, 4, none⟩ = some (.int .i64 made)) (h5 : w.cell? ⟨sb, 5, none⟩ = some fv) (hz : ∀ i, w.frozen? ⟨sb, i, none⟩ = false) (hc : c < w.heap.size) (hne : c ≠ sb) :
    SlotsAt (w.setChan c 1 #[.agg #[]] false s r false) sb c wk made fv true := by
  have e : ∀ i, (w.setChan c 1 #[.agg #[]] false s r false).cell? ⟨sb, i, none⟩ = w.cell? ⟨sb, i, none⟩ := fun i => World.cell?_of_block (setChan_other _ _ _ _ _ _ _ _ _ hne)
  have f : ∀ i, (w.setChan c 1 #[.agg #[]] false s r false).frozen? ⟨sb, i, none⟩ = w.frozen? ⟨sb, i, none⟩ := fun i => World.frozen?_of_block (setChan_other _ _ _ _ _ _ _ _ _ hne)
  exact ⟨(e 0).trans h0, (e 1).trans h1, (e 2).trans h2, (e 4).trans h4, (e 5).trans h5, fun i => (f i).trans (hz i), s, r, heap_setChan _ _ _ _ _ _ _ _ hc⟩

/-- The two stores behind the append: the field 'free', the mutex let go. -/
theorem stores_at {w1 : World} {sb : Nat} {v u0 u1 u2 u4 u5 : Value} (c0 : w1.cell? ⟨sb, 0, none⟩ = some u0) (c1 : w1.cell? ⟨sb, 1, none⟩ = some u1) (c2 : w1.cell? ⟨sb, 2, none⟩ = some u2) (c4 : w1.cell? ⟨sb, 4, none⟩ = some u4) (c5 : w1.cell? ⟨sb, 5, none⟩ = some u5) :
    let w2 := (w1.setCell ⟨sb, 5, none⟩ v).setCell ⟨sb, 2, none⟩ (.int .i32 0)
    w2.cell? ⟨sb, 0, none⟩ = some u0 ∧ w2.cell? ⟨sb, 1, none⟩ = some u1 ∧ w2.cell? ⟨sb, 2, none⟩ = some (.int .i32 0) ∧ w2.cell? ⟨sb, 4, none⟩ = some u4 ∧ w2.cell? ⟨sb, 5, none⟩ = some v := by
  have o : ∀ i, i ≠ 5 → i ≠ 2 → ((w1.setCell ⟨sb, 5, none⟩ v).setCell ⟨sb, 2, none⟩ (.int .i32 0)).cell? ⟨sb, i, none⟩ = w1.cell? ⟨sb, i, none⟩ := fun i h5 h2 =>
    (World.cell?_setCell_other _ ⟨sb, 2, none⟩ ⟨sb, i, none⟩ _ (by simp <;> omega)).trans (World.cell?_setCell_other _ ⟨sb, 5, none⟩ ⟨sb, i, none⟩ _ (by simp <;> omega))
  exact ⟨(o 0 (by omega) (by omega)).trans c0, (o 1 (by omega) (by omega)).trans c1, World.cell?_setCell_same _ _ _ ((World.cell?_setCell_other _ ⟨sb, 5, none⟩ ⟨sb, 2, none⟩ _ (by simp)).trans c2), (o 4 (by omega) (by omega)).trans c4,
    (World.cell?_setCell_other _ ⟨sb, 2, none⟩ ⟨sb, 5, none⟩ _ (by simp)).trans (World.cell?_setCell_same _ _ _ c5)⟩

set_option maxRecDepth 100000 in
set_option maxHeartbeats 1000000 in
theorem put_any (w : World) (sb c base : Nat) (wk made : Int) (fv : Value) (tok : Bool) (xs : List Int) (x : Int)
    (hS : SlotsAt w sb c wk made fv tok) (hne : c ≠ sb) (hsb : sb < base) (hcb : c < base) (hbase : base ≤ w.heap.size)
    (hown : w.ownsRow base 3 1 fv xs.length (xs.map (Value.int .i64))) (hn : xs.length ≤ 2048) :
    Calls Yba.prog 9 #[.pointer (some ⟨sb, 0, none⟩), .int .i64 x] w fun e w' => e = .returned (.tuple #[]) ∧
      ∃ fv', SlotsAt w' sb c wk made fv' true ∧ w'.ownsRow base 3 1 fv' (xs ++ [x]).length ((xs ++ [x]).map (Value.int .i64)) ∧
        (fv'.ownBlock = fv.ownBlock ∨ ∃ k, fv'.ownBlock = some k ∧ w.heap.size ≤ k) ∧ Turned (fun k => k = sb ∨ k = c ∨ fv.ownBlock = some k) w w' := by
  obtain ⟨h0, h1, h2, h4, h5, hz, s, r, hch⟩ := hS
  obtain ⟨i0, hi, hz0, hz1, hz2⟩ := info_parts info3
  have z2 := hz 2
  have z5 := hz 5
  go_enter Yba.func9, Yba.ntmps9
  go_wp2_with (first
    | (go_at_call 12; refine (lock_free muLib ⟨sb, 2, none⟩ _ h2 z2).mono ?_; rintro e w' ⟨rfl, rfl⟩)
    | (at_builtin; refine wpList_append_own_at _ rfl _ _ 56 rfl base 3 i0 (.int .i64 0) 1 8 Yba.underlying56 hi hz0 hz1 hz2 rfl (by decide) fv xs.length (xs.map (Value.int .i64)) rfl ((ownsRow_setCell_below hown hsb _).alloc _) ⟨w.heap.size, 0, none⟩ 1 1 [.int .i64 x] rfl rfl ?c1 ?c2 ?c3 ?c4 ?c5 ?_))
  case c1 => exact cell_one _ _ _ _ _
  case c2 => intro u hu; simp at hu; subst hu; rfl
  case c3 => unfold maxLen; omega
  case c4 => omega
  case c5 => simp; omega
  intro v' w1 hown' hgrow _ hat
  have hcell : ∀ i, w1.cell? ⟨sb, i, none⟩ = (w.setCell ⟨sb, 2, none⟩ (.int .i32 1)).cell? ⟨sb, i, none⟩ := by
    intro i
    refine (World.cell?_of_block (hgrow.block sb (by simp; omega) ?_)).trans (World.cell?_of_block (Below.heap_alloc _ _ _ (by simp; omega)))
    intro e
    have := hown.lt sb e.symm
    omega
  have hfroz : ∀ i, w1.frozen? ⟨sb, i, none⟩ = false := by
    intro i
    refine ((World.frozen?_of_block (hgrow.block sb (by simp; omega) ?_)).trans (World.frozen?_of_block (Below.heap_alloc _ _ _ (by simp; omega)))).trans ?_
    · intro e
      have := hown.lt sb e.symm
      omega
    · simpa using hz i
  have c1 : w1.cell? ⟨sb, 1, none⟩ = some (.chan (some c)) := (hcell 1).trans ((World.cell?_setCell_other _ ⟨sb, 2, none⟩ ⟨sb, 1, none⟩ _ (by simp)).trans h1)
  have c2 : w1.cell? ⟨sb, 2, none⟩ = some (.int .i32 1) := (hcell 2).trans (World.cell?_setCell_same _ _ _ h2)
  have c5 : w1.cell? ⟨sb, 5, none⟩ = some fv := (hcell 5).trans ((World.cell?_setCell_other _ ⟨sb, 2, none⟩ ⟨sb, 5, none⟩ _ (by simp)).trans h5)
  have g2 := hfroz 2
  have g5 := hfroz 5
  have hch1 : w1.heap[c]? = some (.chan 1 (if tok then #[.agg #[]] else #[]) false s r false) := by
    refine ((hgrow.block c (by simp; omega) ?_).trans (Below.heap_alloc _ _ _ (by simp; omega))).trans ((Below.heap_setCell _ _ _ _ hne).trans hch)
    intro e
    have := hown.lt c e.symm
    omega
  have hT : Turned (fun k => k = sb ∨ k = c ∨ fv.ownBlock = some k) w w1 :=
    (((Turned.refl _ w).setCell (p := ⟨sb, 2, none⟩) (fun _ => .inl rfl) _).alloc _).grown hgrow (fun j e _ => .inr (.inr e))
  have O0 : w1.ownsRow base 3 1 v' (xs ++ [x]).length ((xs ++ [x]).map (Value.int .i64)) := by
    simpa using hown'
  have hex : ∃ g cap, v' = .slice (some ⟨g, 0, none⟩) (xs.length + 1) cap := by
    obtain ⟨g, cap, hv⟩ := Go.Joins.ownsRow_form hown' (by omega)
    exact ⟨g, cap, hv⟩
  obtain ⟨g, cap, hv⟩ := hex
  rw [hv] at O0 hat ⊢
  have O : Hid (w1.ownsRow base 3 1 (.slice (some ⟨g, 0, none⟩) (xs.length + 1) cap) (xs ++ [x]).length ((xs ++ [x]).map (Value.int .i64))) := O0
  have HA : Hid ((Value.slice (some ⟨g, 0, none⟩) (xs.length + 1) cap).ownBlock = fv.ownBlock ∨ ∃ k, (Value.slice (some ⟨g, 0, none⟩) (xs.length + 1) cap).ownBlock = some k ∧ w.heap.size ≤ k) := by
    rcases hat with h | h
    · exact .inl h
    · exact .inr ⟨_, h, by simp⟩
  have c0 : Hid (w1.cell? ⟨sb, 0, none⟩ = some (.int .i64 wk)) := (hcell 0).trans ((World.cell?_setCell_other _ ⟨sb, 2, none⟩ ⟨sb, 0, none⟩ _ (by simp)).trans h0)
  have c4 : Hid (w1.cell? ⟨sb, 4, none⟩ = some (.int .i64 made)) := (hcell 4).trans ((World.cell?_setCell_other _ ⟨sb, 2, none⟩ ⟨sb, 4, none⟩ _ (by simp)).trans h4)
  have HC : Hid (w1.heap[c]? = some (.chan 1 (if tok then #[.agg #[]] else #[]) false s r false)) := hch1
  have HZ : Hid (∀ i, w1.frozen? ⟨sb, i, none⟩ = false) := hfroz
  have HT : Hid (Turned (fun k => k = sb ∨ k = c ∨ fv.ownBlock = some k) w w1) := hT
  clear hcell hfroz hch1 hT hown' hgrow O0 hat hv hch h0 h1 h2 h4 h5 hz z2 z5 hi hz0 hz1 hz2
  go_upto_region 5 with (go_at_call 13; refine (unlock_held muLib ⟨sb, 2, none⟩ _ ((World.cell?_setCell_other _ ⟨sb, 5, none⟩ ⟨sb, 2, none⟩ _ (by simp)).trans c2) (by simp [g2])).mono ?_; rintro e w' ⟨rfl, rfl⟩)
  have hlt : c < w1.heap.size := by have := HT.out.size; omega
  obtain ⟨k0, k1, k2, k4, k5⟩ := stores_at (v := .slice (some ⟨g, 0, none⟩) (xs.length + 1) cap) c0.out c1 c2 c4.out c5
  have hch2 : ((w1.setCell ⟨sb, 5, none⟩ (.slice (some ⟨g, 0, none⟩) (xs.length + 1) cap)).setCell ⟨sb, 2, none⟩ (.int .i32 0)).heap[c]? = some (.chan 1 (if tok then #[.agg #[]] else #[]) false s r false) :=
    (Below.heap_setCell _ _ _ _ hne).trans ((Below.heap_setCell _ _ _ _ hne).trans HC.out)
  have hT2 : Turned (fun k => k = sb ∨ k = c ∨ fv.ownBlock = some k) w ((w1.setCell ⟨sb, 5, none⟩ (.slice (some ⟨g, 0, none⟩) (xs.length + 1) cap)).setCell ⟨sb, 2, none⟩ (.int .i32 0)) :=
    (HT.out.setCell (p := ⟨sb, 5, none⟩) (fun _ => .inl rfl) _).setCell (p := ⟨sb, 2, none⟩) (fun _ => .inl rfl) _
  have hZ2 : ∀ i, ((w1.setCell ⟨sb, 5, none⟩ (.slice (some ⟨g, 0, none⟩) (xs.length + 1) cap)).setCell ⟨sb, 2, none⟩ (.int .i32 0)).frozen? ⟨sb, i, none⟩ = false := fun i => by simpa using HZ.out i
  have O2 := ownsRow_setCell_below (ownsRow_setCell_below O.out hsb (a := ⟨sb, 5, none⟩) (.slice (some ⟨g, 0, none⟩) (xs.length + 1) cap)) hsb (a := ⟨sb, 2, none⟩) (.int .i32 0)
  cases tok
  · refine wp_region_select_room (c := c) (v := .agg #[]) (z := .agg #[]) rfl (by simp [go_sem, execOp, scase, Act.eval]) hch2 (by simp) ?_
    have R : SlotsAt (((w1.setCell ⟨sb, 5, none⟩ (.slice (some ⟨g, 0, none⟩) (xs.length + 1) cap)).setCell ⟨sb, 2, none⟩ (.int .i32 0)).setChan c 1 #[.agg #[]] false (s + 1) r false) sb c wk made (.slice (some ⟨g, 0, none⟩) (xs.length + 1) cap) true :=
      SlotsAt.sent k0 k1 k2 k4 k5 hZ2 (by simpa using hlt) hne
    have hT3 := hT2.setChan (c := c) (fun _ => .inr (.inl rfl)) 1 #[.agg #[]] false (s + 1) r false
    have O3 := (Turned.refl (fun k => k = c) _).setChan (w := ((w1.setCell ⟨sb, 5, none⟩ (.slice (some ⟨g, 0, none⟩) (xs.length + 1) cap)).setCell ⟨sb, 2, none⟩ (.int .i32 0))) (c := c) (fun _ => rfl) 1 #[.agg #[]] false (s + 1) r false |>.owns O2 (fun k hk e => by have := O2.lt k hk; omega)
    clear hT2 O2 hZ2 hch2 k0 k1 k2 k4 k5 hlt
    simp only [Bool.false_eq_true, if_false, List.push_toArray, List.nil_append]
    go_wp2
    go_end0
    exact ⟨rfl, _, R, by simpa using O3, HA.out, hT3⟩
  · refine wp_region_select_full (c := c) (v := .agg #[]) (z := .agg #[]) rfl (by simp [go_sem, execOp, scase, Act.eval]) hch2 (by simp) ?_
    have R : SlotsAt ((w1.setCell ⟨sb, 5, none⟩ (.slice (some ⟨g, 0, none⟩) (xs.length + 1) cap)).setCell ⟨sb, 2, none⟩ (.int .i32 0)) sb c wk made (.slice (some ⟨g, 0, none⟩) (xs.length + 1) cap) true :=
      ⟨k0, k1, k2, k4, k5, hZ2, s, r, hch2⟩
    clear hZ2 hch2 k0 k1 k2 k4 k5 hlt
    go_wp2
    go_end0
    exact ⟨rfl, _, R, by simpa using O2, HA.out, hT2⟩
end Go.Proofs.Ybulkbkpe
