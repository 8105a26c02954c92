import Derived.Test.YbulkbkzyDoorWire
namespace Go.Proofs.YbulkbkzyDoor
open Go.RowKit

/-- A row of n elements and more: its value's form. -/
theorem own_form {w : World} {base n : Nat} {v : Value} {xs : List Value} (h : w.ownsRow base 5 1 v n xs) (hn : 0 < n) : ∃ g cap, v = .slice (some ⟨g, 0, none⟩) n cap ∧ n ≤ cap ∧ g < w.heap.size := by
  obtain ⟨g, cap, hv⟩ := Go.Joins.ownsRow_form h hn
  subst hv
  refine ⟨g, cap, rfl, ?_, (h.lt g rfl).2⟩
  obtain ⟨_, hv | ⟨g', cap', cur, hv, _, _, hle, _⟩⟩ := h
  · cases hv.1
  · simp at hv; omega

theorem take_get {zs : List Int} {len j : Nat} {u : Value} (h : ((zs.take len).map (Value.int .u8))[j]? = some u) : j < len ∧ u = .int .u8 (zs.getD j 0) := by
  rw [List.getElem?_map, Option.map_eq_some_iff] at h
  obtain ⟨y, hy, rfl⟩ := h
  rw [List.getElem?_take] at hy
  split at hy
  · exact ⟨‹_›, by simp [hy]⟩
  · cases hy
/-- The four bytes, off the row. -/
theorem four_cells {w : World} {base g n cap : Nat} {a b : Int} {xs : List Value} (h : w.ownsRow base 5 1 (.slice (some ⟨g, 0, none⟩) n cap) n ([a % 256, a / 256, b % 256, b / 256].map (Value.int .u8) ++ xs)) (hn : 4 ≤ n) :
    w.cell? ⟨g, 0, none⟩ = some (.int .u8 (a % 256)) ∧ w.cell? ⟨g, 1, none⟩ = some (.int .u8 (a / 256)) ∧ w.cell? ⟨g, 2, none⟩ = some (.int .u8 (b % 256)) ∧ w.cell? ⟨g, 3, none⟩ = some (.int .u8 (b / 256)) := by
  refine ⟨?_, ?_, ?_, ?_⟩
  · rw [h.cellAt 0 (by omega)]; rfl
  · rw [h.cellAt 1 (by omega)]; rfl
  · rw [h.cellAt 2 (by omega)]; rfl
  · rw [h.cellAt 3 (by omega)]; rfl

set_option maxRecDepth 100000 in
set_option maxHeartbeats 1000000 in
theorem trip_nil (a b : Int) (h0 : 0 ≤ a) (h1 : a ≤ 65535) (h2 : 0 ≤ b) (h3 : b ≤ 65535) (w : World) :
    Calls Ybad.prog 3 #[.int .u16 a, .int .u16 b, .slice none 0 0] w fun e w' => e = .returned (.bool true) ∧ Below w.heap.size w w' := by
  go_enter Ybad.func3, Ybad.ntmps3
  go_wp2_with fail
  refine (encode_any _ a b h0 h1 h2 h3).mono ?_
  rintro e w1 ⟨v1, rfl, hO, hB⟩
  obtain ⟨g, cap, hv, hcap, hg⟩ := own_form hO (by omega)
  subst hv
  obtain ⟨c0, c1, c2, c3⟩ := four_cells (xs := []) (by simpa using hO) (by omega)
  have hB1 : Below w.heap.size w w1 := ((Below.refl _ w).alloc (Nat.le_refl _) _).trans (hB.mono (by simp))
  clear hO hB
  go_wp2_with fail
  refine (decode_any w1 g 4 cap a b h0 h1 h2 h3 (by omega) (by omega) hcap hg c0 c1 c2 c3).mono ?_
  rintro e w2 ⟨rfl, hB2⟩
  have hB3 : Below w.heap.size w w2 := hB1.trans (hB2.mono hB1.size)
  clear c0 c1 c2 c3 hB1 hB2 hg
  go_wp2
  go_ret
  exact ⟨rfl, hB3.alloc hB3.size _⟩

set_option maxRecDepth 100000 in
theorem trip_long (a b : Int) (x : Option Addr) (len cap : Nat) (w : World) (h : 1024 < len) :
    Calls Ybad.prog 3 #[.int .u16 a, .int .u16 b, .slice x len cap] w fun e w' => e = .returned (.bool true) ∧ Below w.heap.size w w' := by
  have h' : (1024 : Int) < (len : Int) := by omega
  go_enter Ybad.func3, Ybad.ntmps3
  go_wp2
  go_ret
  exact ⟨rfl, Below.refl _ _⟩

set_option maxRecDepth 100000 in
set_option maxHeartbeats 1000000 in
theorem trip_some (a b : Int) (h0 : 0 ≤ a) (h1 : a ≤ 65535) (h2 : 0 ≤ b) (h3 : b ≤ 65535) (x : Addr) (len ecap : Nat) (zs : List Int) (w : World) (hlen : len ≤ 1024) (hz : len ≤ zs.length)
    (hx : ∀ i, i < len → w.cell? (x.add i) = some (.int .u8 (zs.getD i 0))) :
    Calls Ybad.prog 3 #[.int .u16 a, .int .u16 b, .slice (some x) len ecap] w fun e w' => e = .returned (.bool true) ∧ Below w.heap.size w w' := by
  obtain ⟨i0, hi, hz0, hz1, hz2⟩ := info_parts info5
  have HX : Hid (∀ i, i < len → w.cell? (x.add i) = some (.int .u8 (zs.getD i 0))) := hx
  clear hx
  go_enter Ybad.func3, Ybad.ntmps3
  go_wp2_with fail
  refine (encode_any _ a b h0 h1 h2 h3).mono ?_
  rintro e w1 ⟨v1, rfl, hO, hB⟩
  have hB1 : Below w.heap.size w w1 := ((Below.refl _ w).alloc (Nat.le_refl _) _).trans (hB.mono (by simp))
  have hs1 : w.heap.size + 2 ≤ w1.heap.size := by
    obtain ⟨g, cap, hv, _, hg⟩ := own_form hO (by omega)
    have := hO.lt g (by rw [hv]; rfl)
    simp at this
    omega
  clear hB
  go_wp2_with (at_builtin; refine wpList_append_own_at _ rfl _ _ 23 rfl _ 5 i0 (.int .u8 0) 1 1 Ybad.underlying23 hi hz0 hz1 hz2 rfl (by decide) v1 4 _ rfl hO x len ecap ((zs.take len).map (Value.int .u8)) rfl ?c0 ?c1 ?c2 ?c3 ?c4 ?c5 ?_)
  case c0 => simp; omega
  case c1 =>
    intro j u hj
    obtain ⟨hjl, e⟩ := take_get hj
    rw [e]
    exact cell_later hB1 (HX.out j hjl)
  case c2 =>
    intro u hu
    obtain ⟨y, _, rfl⟩ := List.mem_map.1 hu
    rfl
  case c3 => unfold maxLen; omega
  case c4 => omega
  case c5 => simp; omega
  intro v' w2 hown' hgrow _ _
  obtain ⟨g, cap, hv, hcap, hg⟩ := own_form hown' (by omega)
  rw [hv] at hown' ⊢
  obtain ⟨c0, c1, c2, c3⟩ := four_cells (xs := List.take len (List.map (Value.int .u8) zs)) (by simpa using hown') (by omega)
  have hB2 : Below w.heap.size w w2 := hB1.grown hgrow hB1.size (fun j e => by have := hO.lt j e; simp at this; omega)
  clear hown' hgrow hO hB1 hv hs1 HX hi hz0 hz1 hz2
  go_wp2_with fail
  refine (decode_any w2 g (4 + len) cap a b h0 h1 h2 h3 (by omega) (by omega) hcap hg c0 c1 c2 c3).mono ?_
  rintro e w3 ⟨rfl, hB3⟩
  have hB4 : Below w.heap.size w w3 := hB2.trans (hB3.mono hB2.size)
  clear c0 c1 c2 c3 hB2 hB3 hg
  go_wp2
  go_ret
  exact ⟨rfl, hB4.alloc hB4.size _⟩
end Go.Proofs.YbulkbkzyDoor
