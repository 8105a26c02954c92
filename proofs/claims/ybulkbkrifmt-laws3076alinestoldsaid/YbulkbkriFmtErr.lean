import Derived.Test.YbulkbkriFmtHunkLine
namespace Go.Proofs.YbulkbkriFmt
open Go.RowKit Go.Extern.Stop Go.Stop Go.Extern

/-- Behind quote: the parser's counts, the tape, what was there. -/
theorem after_quote {F : Interp} {w W w1 : World} {pb : Nat} {old new : Int} (hF : F.answers w.tape) (hpb : pb < w.heap.size) (p4 : w.cell? ⟨pb, 4, none⟩ = some (.int .i64 old)) (p5 : w.cell? ⟨pb, 5, none⟩ = some (.int .i64 new)) (hb : Below W.heap.size W w1)
    (hW : W.heap = w.heap := by rfl) (ht : W.tape = w.tape := by rfl) (ho : W.os = w.os := by rfl) (hu : W.output = w.output := by rfl) :
    w1.cell? ⟨pb, 4, none⟩ = some (.int .i64 old) ∧ w1.cell? ⟨pb, 5, none⟩ = some (.int .i64 new) ∧ F.answers w1.tape ∧ w.heap.size ≤ w1.heap.size ∧ Below w.heap.size w w1 := by
  have e : Below w.heap.size w w1 := ⟨hb.os.trans ho, hb.tape.trans ht, hb.output.trans hu, by have := hb.size; rw [hW] at this; exact this, fun k hk => (hb.block k (by rw [hW]; exact hk)).trans (by rw [hW])⟩
  exact ⟨(e.cell (p := ⟨pb, 4, none⟩) hpb).trans p4, (e.cell (p := ⟨pb, 5, none⟩) hpb).trans p5, by rw [e.tape]; exact hF, e.size, e⟩

set_option maxRecDepth 100000 in
set_option maxHeartbeats 1000000 in
theorem err_add (F : Interp) {pb vb : Nat} {w : World} {st old new : Int} (lb : Nat) (hF : F.answers w.tape) (hP : ParserAt w pb vb st old new) (hpb : pb < w.heap.size)
    (l0 : w.cell? ⟨lb, 0, none⟩ = some (.int .u8 43)) (l1 : w.cell? ⟨lb, 1, none⟩ = some (.int .u8 120)) (h1 : new ≤ 0) :
    Calls Ybaf.prog 4 #[.pointer (some ⟨pb, 0, none⟩), .slice (some ⟨lb, 0, none⟩) 2 2] w fun e w' => ∃ p, e = .returned (.iface 46 (.pointer (some p))) ∧ Below w.heap.size w w' := by
  obtain ⟨p0, p1, p4, p5, pz⟩ := hP
  have h2 : ¬ 0 < new := by omega
  go_enter Ybaf.func4, Ybaf.ntmps4
  go_wp2
  go_quiet (fail)
  go_wp2_with fail
  clear h1 h2 p0 p1 pz
  go_region_with (first
    | (go_at_call 7; refine (quote_any F lb 43 _ (by exact hF) (by simpa using l0) (by simpa using l1)).mono ?_; rintro e w1 ⟨s, rfl, hb⟩; obtain ⟨k4, k5, hF1, hsz, hbl⟩ := after_quote hF hpb p4 p5 hb)
    | (go_at_call 6; refine (errorf_any F _ s old new _ (by exact hF1) (by simp) (by simp) (by simp)).mono ?_; rintro e w2 ⟨p, rfl, hb2⟩))
  all_goals (go_wp2; go_ret; exact ⟨p, rfl, hbl.trans (((Below.refl _ w1).alloc hsz _).trans (hb2.mono (by simp; omega)))⟩)
set_option maxRecDepth 100000 in
set_option maxHeartbeats 1000000 in
theorem err_remove (F : Interp) {pb vb : Nat} {w : World} {st old new : Int} (lb : Nat) (hF : F.answers w.tape) (hP : ParserAt w pb vb st old new) (hpb : pb < w.heap.size)
    (l0 : w.cell? ⟨lb, 0, none⟩ = some (.int .u8 45)) (l1 : w.cell? ⟨lb, 1, none⟩ = some (.int .u8 120)) (h1 : old ≤ 0) :
    Calls Ybaf.prog 4 #[.pointer (some ⟨pb, 0, none⟩), .slice (some ⟨lb, 0, none⟩) 2 2] w fun e w' => ∃ p, e = .returned (.iface 46 (.pointer (some p))) ∧ Below w.heap.size w w' := by
  obtain ⟨p0, p1, p4, p5, pz⟩ := hP
  have h2 : ¬ 0 < old := by omega
  go_enter Ybaf.func4, Ybaf.ntmps4
  go_wp2
  go_quiet (fail)
  go_wp2_with fail
  clear h1 h2 p0 p1 pz
  go_region_with (first
    | (go_at_call 7; refine (quote_any F lb 45 _ (by exact hF) (by simpa using l0) (by simpa using l1)).mono ?_; rintro e w1 ⟨s, rfl, hb⟩; obtain ⟨k4, k5, hF1, hsz, hbl⟩ := after_quote hF hpb p4 p5 hb)
    | (go_at_call 6; refine (errorf_any F _ s old new _ (by exact hF1) (by simp) (by simp) (by simp)).mono ?_; rintro e w2 ⟨p, rfl, hb2⟩))
  all_goals (go_wp2; go_ret; exact ⟨p, rfl, hbl.trans (((Below.refl _ w1).alloc hsz _).trans (hb2.mono (by simp; omega)))⟩)
set_option maxRecDepth 100000 in
set_option maxHeartbeats 1000000 in
theorem err_keep_old (F : Interp) {pb vb : Nat} {w : World} {st old new : Int} (lb : Nat) (hF : F.answers w.tape) (hP : ParserAt w pb vb st old new) (hpb : pb < w.heap.size)
    (l0 : w.cell? ⟨lb, 0, none⟩ = some (.int .u8 32)) (l1 : w.cell? ⟨lb, 1, none⟩ = some (.int .u8 120)) (h1 : old ≤ 0) :
    Calls Ybaf.prog 4 #[.pointer (some ⟨pb, 0, none⟩), .slice (some ⟨lb, 0, none⟩) 2 2] w fun e w' => ∃ p, e = .returned (.iface 46 (.pointer (some p))) ∧ Below w.heap.size w w' := by
  obtain ⟨p0, p1, p4, p5, pz⟩ := hP
  have h2 : ¬ 0 < old := by omega
  go_enter Ybaf.func4, Ybaf.ntmps4
  go_wp2
  go_quiet (fail)
  go_wp2_with fail
  clear h1 h2 p0 p1 pz
  go_region_with (first
    | (go_at_call 7; refine (quote_any F lb 32 _ (by exact hF) (by simpa using l0) (by simpa using l1)).mono ?_; rintro e w1 ⟨s, rfl, hb⟩; obtain ⟨k4, k5, hF1, hsz, hbl⟩ := after_quote hF hpb p4 p5 hb)
    | (go_at_call 6; refine (errorf_any F _ s old new _ (by exact hF1) (by simp) (by simp) (by simp)).mono ?_; rintro e w2 ⟨p, rfl, hb2⟩))
  all_goals (go_wp2; go_ret; exact ⟨p, rfl, hbl.trans (((Below.refl _ w1).alloc hsz _).trans (hb2.mono (by simp; omega)))⟩)
set_option maxRecDepth 100000 in
set_option maxHeartbeats 1000000 in
theorem err_keep_new (F : Interp) {pb vb : Nat} {w : World} {st old new : Int} (lb : Nat) (hF : F.answers w.tape) (hP : ParserAt w pb vb st old new) (hpb : pb < w.heap.size)
    (l0 : w.cell? ⟨lb, 0, none⟩ = some (.int .u8 32)) (l1 : w.cell? ⟨lb, 1, none⟩ = some (.int .u8 120)) (h0 : 0 < old) (h1 : new ≤ 0) :
    Calls Ybaf.prog 4 #[.pointer (some ⟨pb, 0, none⟩), .slice (some ⟨lb, 0, none⟩) 2 2] w fun e w' => ∃ p, e = .returned (.iface 46 (.pointer (some p))) ∧ Below w.heap.size w w' := by
  obtain ⟨p0, p1, p4, p5, pz⟩ := hP
  have h2 : ¬ 0 < new := by omega
  go_enter Ybaf.func4, Ybaf.ntmps4
  go_wp2
  go_quiet (fail)
  go_wp2_with fail
  clear h0 h1 h2 p0 p1 pz
  go_region_with (first
    | (go_at_call 7; refine (quote_any F lb 32 _ (by exact hF) (by simpa using l0) (by simpa using l1)).mono ?_; rintro e w1 ⟨s, rfl, hb⟩; obtain ⟨k4, k5, hF1, hsz, hbl⟩ := after_quote hF hpb p4 p5 hb)
    | (go_at_call 6; refine (errorf_any F _ s old new _ (by exact hF1) (by simp) (by simp) (by simp)).mono ?_; rintro e w2 ⟨p, rfl, hb2⟩))
  all_goals (go_wp2; go_ret; exact ⟨p, rfl, hbl.trans (((Below.refl _ w1).alloc hsz _).trans (hb2.mono (by simp; omega)))⟩)
end Go.Proofs.YbulkbkriFmt
