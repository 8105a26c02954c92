import Derived.Test.YbulkbkriClose
namespace Go.Proofs.Ybulkbkri
open Go.RowKit

/-- The world ahead of closeHunkIfDone: the visitor, the parser. -/
def start (w : World) (a0 a1 st a3 : Int) (a4 a5 : ByteArray) : World :=
  (w.alloc (.cells #[.slice none 0 0] 25)).alloc (.cells #[.iface 22 (.pointer (some ⟨w.heap.size, 0, none⟩)), .int .i64 st, .int .i64 a3, .string a4, .int .i64 a0, .int .i64 a1, .nilIface, .map none, .string a5, .int .i64 0, .bool false, .bool false] 35)

section
variable (w : World) (a0 a1 st a3 : Int) (a4 a5 : ByteArray)
theorem start_cell (i : Nat) : (start w a0 a1 st a3 a4 a5).cell? ⟨w.heap.size + 1, i, none⟩ = #[Value.iface 22 (.pointer (some ⟨w.heap.size, 0, none⟩)), .int .i64 st, .int .i64 a3, .string a4, .int .i64 a0, .int .i64 a1, .nilIface, .map none, .string a5, .int .i64 0, .bool false, .bool false][i]? :=
  World.cell?_alloc_at _ _ _ _ (by simp)
theorem start_block : (start w a0 a1 st a3 a4 a5).heap[w.heap.size + 1]? = some (.cells #[.iface 22 (.pointer (some ⟨w.heap.size, 0, none⟩)), .int .i64 st, .int .i64 a3, .string a4, .int .i64 a0, .int .i64 a1, .nilIface, .map none, .string a5, .int .i64 0, .bool false, .bool false] 35) := by
  have e := heap_alloc_new (w.alloc (.cells #[.slice none 0 0] 25)) (.cells #[.iface 22 (.pointer (some ⟨w.heap.size, 0, none⟩)), .int .i64 st, .int .i64 a3, .string a4, .int .i64 a0, .int .i64 a1, .nilIface, .map none, .string a5, .int .i64 0, .bool false, .bool false] 35)
  rw [World.size_alloc] at e
  exact e
theorem start_log : (start w a0 a1 st a3 a4 a5).heap[w.heap.size]? = some (.cells #[.slice none 0 0] 25) := by
  unfold start
  rw [Below.heap_alloc _ _ _ (by simp)]
  exact heap_alloc_new w _
theorem start_parser : ParserAt (start w a0 a1 st a3 a4 a5) (w.heap.size + 1) w.heap.size st a0 a1 :=
  ⟨by rw [start_cell]; rfl, by rw [start_cell]; rfl, by rw [start_cell]; rfl, by rw [start_cell]; rfl, fun i => by simp [World.frozen?, start_block]⟩
theorem start_below : Below w.heap.size w (start w a0 a1 st a3 a4 a5) := ((Below.refl _ _).alloc (Nat.le_refl _) _).alloc (by simp) _
theorem start_new : ∀ j, (j = w.heap.size + 1 ∨ j = w.heap.size ∨ (Value.slice none 0 0).ownBlock = some j) → w.heap.size ≤ j := by
  rintro j (h | h | h)
  · omega
  · omega
  · simp [Value.ownBlock] at h
theorem start_size : (start w a0 a1 st a3 a4 a5).heap.size = w.heap.size + 2 := by simp [start]
end

set_option maxRecDepth 100000 in
set_option maxHeartbeats 1000000 in
theorem law_not (a0 a1 a2 a3 : Int) (a4 a5 : ByteArray) (w : World) (h0 : 0 ≤ a2) (h255 : a2 ≤ 255) (h : a0 ≠ 0 ∨ a1 ≠ 0) :
    Calls Yba.prog 3 #[.int .i64 a0, .int .i64 a1, .int .u8 a2, .int .i64 a3, .string a4, .string a5] w fun e w' => e = .returned (.bool true) ∧ Below w.heap.size w w' := by
  have HN : Hid (a0 ≠ 0 ∨ a1 ≠ 0) := h
  clear h
  go_enter Yba.func3, Yba.ntmps3
  go_wp2_with fail
  refine (close_not (start w a0 a1 (a2 % 5) a3 a4 a5) (w.heap.size + 1) w.heap.size (a2 % 5) a0 a1 (start_parser w a0 a1 (a2 % 5) a3 a4 a5) HN.out).mono ?_
  rintro e w' ⟨rfl, rfl⟩
  have hb := start_below w a0 a1 (a2 % 5) a3 a4 a5
  by_cases ho : a0 = 0
  · subst ho
    have hn : (a1 == 0) = false := by simpa using HN.out
    clear HN
    unfold start at hb ⊢
    go_wp2
    go_ret
    exact ⟨rfl, hb⟩
  · have hn : (a0 == 0) = false := by simpa using ho
    clear HN
    unfold start at hb ⊢
    go_wp2
    go_ret
    exact ⟨rfl, hb⟩

set_option maxRecDepth 100000 in
set_option maxHeartbeats 1000000 in
theorem law_done (a2 a3 : Int) (a4 a5 : ByteArray) (w : World) (h0 : 0 ≤ a2) (h255 : a2 ≤ 255) :
    Calls Yba.prog 3 #[.int .i64 0, .int .i64 0, .int .u8 a2, .int .i64 a3, .string a4, .string a5] w fun e w' => e = .returned (.bool true) ∧ Below w.heap.size w w' := by
  go_enter Yba.func3, Yba.ntmps3
  go_wp2_with fail
  refine (close_done (start w 0 0 (a2 % 5) a3 a4 a5) (w.heap.size + 1) w.heap.size (w.heap.size + 2) (a2 % 5) (.slice none 0 0) [] (start_parser w 0 0 (a2 % 5) a3 a4 a5) (by omega) (by omega)
    (by simp [World.cell?, start_log]) (by simp [World.frozen?, start_log]) (by omega) (by rw [start_size]; exact Nat.le_refl _) (by simpa using World.ownsRow_nil _ _ _ _) (by simp)).mono ?_
  rintro e w1 ⟨rfl, lv', c1, hci, hfi, hl, hlz, hown, _, hT⟩
  have hbl : Below w.heap.size w w1 := (start_below w 0 0 (a2 % 5) a3 a4 a5).trans (hT.below (by rw [start_size]; omega) (start_new w))
  obtain ⟨g, cap, hv⟩ : ∃ g cap, lv' = .slice (some ⟨g, 0, none⟩) 1 cap := Go.Joins.ownsRow_form hown (by simp)
  subst hv
  have hg : w1.cell? ⟨g, 0, none⟩ = some (.int .u8 69) := by
    have := hown.cellAt 0 (by simp)
    simpa using this
  have k2 : w1.cell? ⟨w.heap.size + 1, 2, none⟩ = some (.int .i64 a3) := (hci 2 (by omega)).trans ((start_cell w 0 0 (a2 % 5) a3 a4 a5 2).trans rfl)
  have k3 : w1.cell? ⟨w.heap.size + 1, 3, none⟩ = some (.string a4) := (hci 3 (by omega)).trans ((start_cell w 0 0 (a2 % 5) a3 a4 a5 3).trans rfl)
  have k4 : w1.cell? ⟨w.heap.size + 1, 4, none⟩ = some (.int .i64 0) := (hci 4 (by omega)).trans ((start_cell w 0 0 (a2 % 5) a3 a4 a5 4).trans rfl)
  have k5 : w1.cell? ⟨w.heap.size + 1, 5, none⟩ = some (.int .i64 0) := (hci 5 (by omega)).trans ((start_cell w 0 0 (a2 % 5) a3 a4 a5 5).trans rfl)
  have k8 : w1.cell? ⟨w.heap.size + 1, 8, none⟩ = some (.string a5) := (hci 8 (by omega)).trans ((start_cell w 0 0 (a2 % 5) a3 a4 a5 8).trans rfl)
  clear hci hfi hlz hown hT
  go_wp2
  go_ret
  exact ⟨rfl, hbl⟩

theorem law_any (a0 a1 a2 a3 : Int) (a4 a5 : ByteArray) (w : World) (h0 : 0 ≤ a2) (h255 : a2 ≤ 255) :
    Calls Yba.prog 3 #[.int .i64 a0, .int .i64 a1, .int .u8 a2, .int .i64 a3, .string a4, .string a5] w fun e w' => e = .returned (.bool true) ∧ Below w.heap.size w w' := by
  by_cases h : a0 ≠ 0 ∨ a1 ≠ 0
  · exact law_not a0 a1 a2 a3 a4 a5 w h0 h255 h
  · obtain rfl : a0 = 0 := by omega
    obtain rfl : a1 = 0 := by omega
    exact law_done a2 a3 a4 a5 w h0 h255
end Go.Proofs.Ybulkbkri
