import Derived.Test.YbulkbkriFmtHunk
namespace Go.Proofs.YbulkbkriFmt
open Go.RowKit Go.Extern.Stop Go.Stop Go.Extern

theorem method_keep (a : Addr) (w : World) : (method 173 23 (.pointer (some a)) "KeepLine").run Ybaf.prog w = .ok (30, .pointer (some a)) w := by kernel_rfl
theorem method_remove (a : Addr) (w : World) : (method 173 23 (.pointer (some a)) "RemoveLine").run Ybaf.prog w = .ok (31, .pointer (some a)) w := by kernel_rfl
theorem method_add (a : Addr) (w : World) : (method 173 23 (.pointer (some a)) "AddLine").run Ybaf.prog w = .ok (27, .pointer (some a)) w := by kernel_rfl

theorem later_bound {w W : World} {lv lv1 : Value} (hs : w.heap.size ≤ W.heap.size) (hb : ∀ j, lv1.ownBlock = some j → lv.ownBlock = some j ∨ W.heap.size ≤ j) : ∀ j, lv1.ownBlock = some j → lv.ownBlock = some j ∨ w.heap.size ≤ j := by
  intro j hj
  rcases hb j hj with h | h
  · exact .inl h
  · exact .inr (Nat.le_trans hs h)
/-- A draw and the first stores turn the parser alone. -/
theorem drawn_turned {w : World} {pb vb : Nat} {lv : Value} (n : Nat) : Turned (fun k => k = pb ∨ k = vb ∨ lv.ownBlock = some k) w (w.drewN n) := (Turned.refl _ w).drewN n


set_option maxRecDepth 100000 in
set_option maxHeartbeats 1000000 in
theorem line_keep {pb vb base : Nat} {w : World} {st old new : Int} {lv : Value} {L : List Int} (lb : Nat) (hA : HAt pb vb base w st old new lv L) (hn : L.length ≤ 4000)
    (l0 : w.cell? ⟨lb, 0, none⟩ = some (.int .u8 32)) (h1 : 0 < old) (h2 : 0 < new) (h3 : old ≤ 15) (h4 : new ≤ 15) :
    Calls Ybaf.prog 4 #[.pointer (some ⟨pb, 0, none⟩), .slice (some ⟨lb, 0, none⟩) 2 2] w fun e w' => e = .returned .nilIface ∧ HStep pb vb base w lv (closeS st (old - 1) (new - 1)) (old - 1) (new - 1) (closeL (L ++ [75]) (old - 1) (new - 1)) w' := by
  obtain ⟨p0, p1, p4, p5, pz⟩ := hA.P
  have z4 := pz 4
  have z5 := pz 5
  have hme := method_keep
  go_enter Ybaf.func4, Ybaf.ntmps4
  go_wp2
  go_quiet (fail)
  go_wp2_with fail
  have hA1 := (((hA.drewN nq).setOld (old - 1)).setNew (new - 1))
  have hT1 := (((drawn_turned (w := w) (pb := pb) (vb := vb) (lv := lv) nq).setCell (p := ⟨pb, 4, none⟩) (fun _ => .inl rfl) (.int .i64 (old - 1))).setCell (p := ⟨pb, 5, none⟩) (fun _ => .inl rfl) (.int .i64 (new - 1)))
  refine (keep_step hA1 (by omega) _).mono ?_
  rintro e w1 ⟨rfl, lv1, hA2, hb2, hT2⟩
  have hb3 := later_bound hT1.size hb2
  have hT3 := hT1.trans hT2
  clear hme p0 p1 p4 p5 pz z4 z5 l0 hb2 hT1 hT2 hA1 hA
  go_wp2_with fail
  refine (close_step hA2 (by simp; omega)).mono ?_
  rintro e w2 ⟨rfl, hst⟩
  have R := HStep.trans hb3 hT3 hst
  clear hst hA2 hb3 hT3
  go_wp2
  go_ret
  exact ⟨rfl, R⟩

set_option maxRecDepth 100000 in
set_option maxHeartbeats 1000000 in
theorem line_remove {pb vb base : Nat} {w : World} {st old new : Int} {lv : Value} {L : List Int} (lb : Nat) (hA : HAt pb vb base w st old new lv L) (hn : L.length ≤ 4000)
    (l0 : w.cell? ⟨lb, 0, none⟩ = some (.int .u8 45)) (h1 : 0 < old) (h3 : old ≤ 15) :
    Calls Ybaf.prog 4 #[.pointer (some ⟨pb, 0, none⟩), .slice (some ⟨lb, 0, none⟩) 2 2] w fun e w' => e = .returned .nilIface ∧ HStep pb vb base w lv (closeS st (old - 1) (new)) (old - 1) (new) (closeL (L ++ [82]) (old - 1) (new)) w' := by
  obtain ⟨p0, p1, p4, p5, pz⟩ := hA.P
  have z4 := pz 4
  have z5 := pz 5
  have hme := method_remove
  go_enter Ybaf.func4, Ybaf.ntmps4
  go_wp2
  go_quiet (fail)
  go_wp2_with fail
  have hA1 := ((hA.drewN nq).setOld (old - 1))
  have hT1 := ((drawn_turned (w := w) (pb := pb) (vb := vb) (lv := lv) nq).setCell (p := ⟨pb, 4, none⟩) (fun _ => .inl rfl) (.int .i64 (old - 1)))
  refine (remove_step hA1 (by omega) _).mono ?_
  rintro e w1 ⟨rfl, lv1, hA2, hb2, hT2⟩
  have hb3 := later_bound hT1.size hb2
  have hT3 := hT1.trans hT2
  clear hme p0 p1 p4 p5 pz z4 z5 l0 hb2 hT1 hT2 hA1 hA
  go_wp2_with fail
  refine (close_step hA2 (by simp; omega)).mono ?_
  rintro e w2 ⟨rfl, hst⟩
  have R := HStep.trans hb3 hT3 hst
  clear hst hA2 hb3 hT3
  go_wp2
  go_ret
  exact ⟨rfl, R⟩

set_option maxRecDepth 100000 in
set_option maxHeartbeats 1000000 in
theorem line_add {pb vb base : Nat} {w : World} {st old new : Int} {lv : Value} {L : List Int} (lb : Nat) (hA : HAt pb vb base w st old new lv L) (hn : L.length ≤ 4000)
    (l0 : w.cell? ⟨lb, 0, none⟩ = some (.int .u8 43)) (h2 : 0 < new) (h4 : new ≤ 15) :
    Calls Ybaf.prog 4 #[.pointer (some ⟨pb, 0, none⟩), .slice (some ⟨lb, 0, none⟩) 2 2] w fun e w' => e = .returned .nilIface ∧ HStep pb vb base w lv (closeS st (old) (new - 1)) (old) (new - 1) (closeL (L ++ [65]) (old) (new - 1)) w' := by
  obtain ⟨p0, p1, p4, p5, pz⟩ := hA.P
  have z4 := pz 4
  have z5 := pz 5
  have hme := method_add
  go_enter Ybaf.func4, Ybaf.ntmps4
  go_wp2
  go_quiet (fail)
  go_wp2_with fail
  have hA1 := ((hA.drewN nq).setNew (new - 1))
  have hT1 := ((drawn_turned (w := w) (pb := pb) (vb := vb) (lv := lv) nq).setCell (p := ⟨pb, 5, none⟩) (fun _ => .inl rfl) (.int .i64 (new - 1)))
  refine (add_step hA1 (by omega) _).mono ?_
  rintro e w1 ⟨rfl, lv1, hA2, hb2, hT2⟩
  have hb3 := later_bound hT1.size hb2
  have hT3 := hT1.trans hT2
  clear hme p0 p1 p4 p5 pz z4 z5 l0 hb2 hT1 hT2 hA1 hA
  go_wp2_with fail
  refine (close_step hA2 (by simp; omega)).mono ?_
  rintro e w2 ⟨rfl, hst⟩
  have R := HStep.trans hb3 hT3 hst
  clear hst hA2 hb3 hT3
  go_wp2
  go_ret
  exact ⟨rfl, R⟩

set_option maxRecDepth 100000 in
set_option maxHeartbeats 1000000 in
theorem line_skip (pb lb : Nat) (w : World) (l0 : w.cell? ⟨lb, 0, none⟩ = some (.int .u8 92)) :
    Calls Ybaf.prog 4 #[.pointer (some ⟨pb, 0, none⟩), .slice (some ⟨lb, 0, none⟩) 2 2] w fun e w' => e = .returned .nilIface ∧ Below w.heap.size w w' := by
  go_enter Ybaf.func4, Ybaf.ntmps4
  go_wp2
  go_quiet (fail)
  go_wp2
  go_ret
  exact ⟨rfl, ⟨rfl, rfl, rfl, Nat.le_refl _, fun _ _ => rfl⟩⟩
end Go.Proofs.YbulkbkriFmt
