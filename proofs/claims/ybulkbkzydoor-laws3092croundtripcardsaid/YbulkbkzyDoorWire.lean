import Derived.Test.YbulkbkzyDoorProg
import Derived.Test.YbulkbkzyDoorWorld
import Derived.Maps.AppendAt
import Derived.Lib.SmallJoins
import Derived.WalkKit
import Derived.WalkSpells
import Derived.WalkLawsBesides
import Derived.Laws.EntriesVeiled
import Derived.Deep.QuietTactic
import Derived.BigQuiet
import Derived.Deep.RegionWith
namespace Go.Proofs.YbulkbkzyDoor
open Go.RowKit

theorem info5 : (Ybad.prog.info? 5).map (fun i => (i.zero, i.size, i.bytes)) = some (some (.int .u8 0), 1, 1) := by kernel_rfl

theorem two_new (w : World) (x y : Value) (e : TypeId) : ∀ (j : Nat) (v : Value), [x, y][j]? = some v → (w.alloc (.cells #[x, y] e)).cell? ((⟨w.heap.size, 0, none⟩ : Addr).add j) = some v := by
  intro j v hj
  match j, hj with
  | 0, hj => simp at hj; subst hj; simp [Addr.add]
  | 1, hj => simp at hj; subst hj; simp [Addr.add]

set_option maxRecDepth 100000 in
set_option maxHeartbeats 800000 in
theorem append16 (w : World) (base : Nat) (bv : Value) (L : List Int) (v : Int) (h0 : 0 ≤ v) (h1 : v ≤ 65535) (hbase : base ≤ w.heap.size) (hown : w.ownsRow base 5 1 bv L.length (L.map (Value.int .u8))) (hn : L.length ≤ 4096) :
    Calls Ybad.prog 6 #[.agg #[], bv, .int .u16 v] w fun e w' => ∃ v', e = .returned v' ∧ w'.ownsRow base 5 1 v' (L ++ [v % 256, v / 256]).length ((L ++ [v % 256, v / 256]).map (Value.int .u8)) ∧ Turned (fun k => bv.ownBlock = some k) w w' := by
  obtain ⟨i0, hi, hz0, hz1, hz2⟩ := info_parts info5
  go_enter Ybad.func6, Ybad.ntmps6
  go_wp2_with (at_builtin; refine wpList_append_own_at _ rfl _ _ 23 rfl base 5 i0 (.int .u8 0) 1 1 Ybad.underlying23 hi hz0 hz1 hz2 rfl (by decide) bv L.length (L.map (Value.int .u8)) rfl ((hown.alloc _).alloc _) ⟨w.heap.size + 1, 0, none⟩ 2 2 [.int .u8 (v % 256), .int .u8 (v / 256)] rfl rfl ?c1 ?c2 ?c3 ?c4 ?c5 ?_)
  case c1 =>
    have := two_new (w.alloc (.cells #[] 33)) (.int .u8 (v % 256)) (.int .u8 (v / 256)) 5
    rw [World.size_alloc] at this
    exact this
  case c2 => intro u hu; simp at hu; rcases hu with rfl | rfl <;> rfl
  case c3 => unfold maxLen; omega
  case c4 => omega
  case c5 => simp; omega
  intro v' w1 hown' hgrow _ _
  have hT : Turned (fun k => bv.ownBlock = some k) w w1 := (((Turned.refl _ w).alloc _).alloc _).grown hgrow (fun j e _ => e)
  have O : w1.ownsRow base 5 1 v' (L ++ [v % 256, v / 256]).length ((L ++ [v % 256, v / 256]).map (Value.int .u8)) := by simpa using hown'
  clear hown' hgrow
  go_wp2
  go_ret
  exact ⟨_, rfl, by simpa using O, hT⟩

theorem join16 (a : Int) (h0 : 0 ≤ a) (h1 : a ≤ 65535) : bits .or .u16 (a % 256) (a / 256 * 256) = a := by
  rw [u16_or _ _ (by omega) (by omega) (by omega) (by omega), nat_join8' _ _ (by omega) (by omega)]
  omega

set_option maxRecDepth 100000 in
set_option maxHeartbeats 800000 in
theorem uint16 (w : World) (g off n cap : Nat) (a : Int) (h0 : 0 ≤ a) (h1 : a ≤ 65535) (c0 : w.cell? ⟨g, off, none⟩ = some (.int .u8 (a % 256))) (c1 : w.cell? ⟨g, off + 1, none⟩ = some (.int .u8 (a / 256))) (hn : 2 ≤ n) (hn2 : n ≤ 4096) (hg : g < w.heap.size) :
    Calls Ybad.prog 7 #[.agg #[], .slice (some ⟨g, off, none⟩) n cap] w fun e w' => e = .returned (.int .u16 a) ∧ Below w.heap.size w w' := by
  have hj := join16 a h0 h1
  go_enter Ybad.func7, Ybad.ntmps7
  go_wp2
  go_quiet (fail)
  go_wp2
  go_ret
  exact ⟨rfl, (((Below.refl _ w).alloc (Nat.le_refl _) _).trans ⟨rfl, rfl, rfl, Nat.le_refl _, fun _ _ => rfl⟩)⟩

set_option maxRecDepth 100000 in
set_option maxHeartbeats 800000 in
theorem encode_any (w : World) (a b : Int) (h0 : 0 ≤ a) (h1 : a ≤ 65535) (h2 : 0 ≤ b) (h3 : b ≤ 65535) :
    Calls Ybad.prog 4 #[.agg #[.int .u16 a, .int .u16 b]] w fun e w' => ∃ v', e = .returned v' ∧ w'.ownsRow (w.heap.size + 1) 5 1 v' 4 ([a % 256, a / 256, b % 256, b / 256].map (Value.int .u8)) ∧ Below w.heap.size w w' := by
  have hmk : ∀ w, (Instr.makeSlice 23 (.int .i64 0) (.int .i64 4)).run Ybad.prog w = .ok (.slice (some ⟨w.heap.size, 0, none⟩) 0 4) (w.alloc (.cells #[.int .u8 0, .int .u8 0, .int .u8 0, .int .u8 0] 5)) := fun _ => by kernel_rfl
  obtain ⟨W, hW⟩ : ∃ W, W = (w.alloc (.cells #[.int .u16 a, .int .u16 b] 25)).alloc (.cells #[.int .u8 0, .int .u8 0, .int .u8 0, .int .u8 0] 5) := ⟨_, rfl⟩
  have hsz : W.heap.size = w.heap.size + 2 := by rw [hW]; simp
  have hB : Below w.heap.size w W := by rw [hW]; exact ((Below.refl _ _).alloc (Nat.le_refl _) _).alloc (by simp) _
  have hc1 : W.cell? ⟨w.heap.size, 1, none⟩ = some (.int .u16 b) := by rw [hW]; simp
  have hO : W.ownsRow (w.heap.size + 1) 5 1 (.slice (some ⟨w.heap.size + 1, 0, none⟩) 0 4) 0 [] := by
    have := World.ownsRow_made (base := w.heap.size + 1) (e := 5) (size := 1) (w.alloc (.cells #[.int .u16 a, .int .u16 b] 25)) #[.int .u8 0, .int .u8 0, .int .u8 0, .int .u8 0] 4 (by simp) (by unfold maxLen; omega) (by simp)
    rw [hW]
    simpa using this
  have HW : Hid ((w.alloc (.cells #[.int .u16 a, .int .u16 b] 25)).alloc (.cells #[.int .u8 0, .int .u8 0, .int .u8 0, .int .u8 0] 5) = W) := hW.symm
  have HS : Hid (W.heap.size = w.heap.size + 2) := hsz
  have HC : Hid (W.cell? ⟨w.heap.size, 1, none⟩ = some (.int .u16 b)) := hc1
  clear hW hsz hc1
  go_enter Ybad.func4, Ybad.ntmps4
  go_wp2_with fail
  rw [HW.out]
  refine (append16 W (w.heap.size + 1) _ [] a h0 h1 (by have := HS.out; omega) hO (by simp)).mono ?_
  rintro e w1 ⟨v1, rfl, hO1, hT1⟩
  have hne : ¬ (Value.slice (some ⟨w.heap.size + 1, 0, none⟩) 0 4).ownBlock = some w.heap.size := by simp [Value.ownBlock]
  have hcb : w1.cell? ⟨w.heap.size, 1, none⟩ = some (.int .u16 b) := (hT1.cell (by have := HS.out; show w.heap.size < W.heap.size; omega) hne).trans HC.out
  have hB1 : Below w.heap.size w w1 := hB.trans (hT1.below (by have := HS.out; omega) (fun j hj => by simp [Value.ownBlock] at hj; omega))
  have hs1 : w.heap.size + 2 ≤ w1.heap.size := by have := HS.out; have := hT1.size; omega
  clear hT1 hne HC HW HS hO hB hmk
  go_wp2_with fail
  refine (append16 w1 (w.heap.size + 1) _ _ b h2 h3 (by omega) hO1 (by simp)).mono ?_
  rintro e w2 ⟨v2, rfl, hO2, hT2⟩
  have hB2 : Below w.heap.size w w2 := hB1.trans (hT2.below (by omega) (fun j hj => by have := hO1.lt j hj; omega))
  clear hO1 hT2 hB1 hcb
  go_wp2
  go_ret
  exact ⟨_, rfl, by simpa using hO2, hB2⟩

/-- DecodeReqRecon's result cell, laid; nothing that was there has turned. -/
structure DecAt (w X : World) : Prop where
  bel : Below w.heap.size w X
  lt : w.heap.size < X.heap.size
  c0 : X.cell? ⟨w.heap.size, 0, none⟩ = some (.int .u16 0)
  c1 : X.cell? ⟨w.heap.size, 1, none⟩ = some (.int .u16 0)
  f0 : X.frozen? ⟨w.heap.size, 0, none⟩ = false
  f1 : X.frozen? ⟨w.heap.size, 1, none⟩ = false
theorem DecAt.later {w X Y : World} (h : DecAt w X) (hb : Below X.heap.size X Y) : DecAt w Y :=
  have hl := h.lt
  ⟨h.bel.trans (hb.mono (by omega)), Nat.lt_of_lt_of_le h.lt hb.size, (hb.cell (p := ⟨w.heap.size, 0, none⟩) h.lt).trans h.c0, (hb.cell (p := ⟨w.heap.size, 1, none⟩) h.lt).trans h.c1, (hb.frozen (p := ⟨w.heap.size, 0, none⟩) h.lt).trans h.f0, (hb.frozen (p := ⟨w.heap.size, 1, none⟩) h.lt).trans h.f1⟩
theorem DecAt.drew {w X : World} (h : DecAt w X) : DecAt w X.drew := ⟨h.bel.drew, h.lt, h.c0, h.c1, h.f0, h.f1⟩
theorem DecAt.start (w : World) : DecAt w (w.alloc (.cells #[.int .u16 0, .int .u16 0] 25)) :=
  ⟨(Below.refl _ _).alloc (Nat.le_refl _) _, by simp, by simp, by simp, by simp, by simp⟩

set_option maxRecDepth 100000 in
set_option maxHeartbeats 1000000 in
theorem decode_any (w : World) (g n cap : Nat) (a b : Int) (h0 : 0 ≤ a) (h1 : a ≤ 65535) (h2 : 0 ≤ b) (h3 : b ≤ 65535) (hn : 4 ≤ n) (hn2 : n ≤ 4096) (hcap : n ≤ cap) (hg : g < w.heap.size)
    (c0 : w.cell? ⟨g, 0, none⟩ = some (.int .u8 (a % 256))) (c1 : w.cell? ⟨g, 1, none⟩ = some (.int .u8 (a / 256))) (c2 : w.cell? ⟨g, 2, none⟩ = some (.int .u8 (b % 256))) (c3 : w.cell? ⟨g, 3, none⟩ = some (.int .u8 (b / 256))) :
    Calls Ybad.prog 5 #[.slice (some ⟨g, 0, none⟩) n cap] w fun e w' => e = .returned (.tuple #[.agg #[.int .u16 a, .int .u16 b], .nilIface]) ∧ Below w.heap.size w w' := by
  go_enter Ybad.func5, Ybad.ntmps5
  go_wp2_with fail
  have D := DecAt.start w
  obtain ⟨W, hW⟩ : ∃ W, W = w.alloc (.cells #[.int .u16 0, .int .u16 0] 25) := ⟨_, rfl⟩
  rw [← hW] at D ⊢
  clear hW
  go_region_with (first
    | (go_at_call_of 7 (Value.slice (some ⟨g, 0, none⟩) n cap); refine (uint16 _ g 0 n cap a h0 h1 ?_ ?_ (by omega) hn2 ?_).mono ?_; exact cell_later D.bel.drew c0; exact cell_later D.bel.drew c1; exact Nat.lt_of_lt_of_le hg D.bel.drew.size; rintro e w1 ⟨rfl, hb1⟩; have D1 := D.drew.later hb1)
    | (go_at_call 7; refine (uint16 _ g 2 (n - 2) (cap - 2) b h2 h3 ?_ ?_ (by omega) (by omega) ?_).mono ?_; exact cell_later D1.bel c2; exact cell_later D1.bel c3; exact Nat.lt_of_lt_of_le hg D1.bel.size; rintro e w2 ⟨rfl, hb2⟩; obtain ⟨hbel, hlt2, q0, q1, r0, r1⟩ := D1.later hb2))
  all_goals
    go_wp2
    have z0 : ((w2.setCell ⟨w.heap.size, 0, none⟩ (.int .u16 a)).setCell ⟨w.heap.size, 1, none⟩ (.int .u16 b)).cell? ⟨w.heap.size, 0, none⟩ = some (.int .u16 a) := (World.cell?_setCell_other _ ⟨w.heap.size, 1, none⟩ ⟨w.heap.size, 0, none⟩ _ (by simp)).trans (World.cell?_setCell_same _ _ _ q0)
    have z1 : ((w2.setCell ⟨w.heap.size, 0, none⟩ (.int .u16 a)).setCell ⟨w.heap.size, 1, none⟩ (.int .u16 b)).cell? ⟨w.heap.size, 1, none⟩ = some (.int .u16 b) := World.cell?_setCell_same _ _ _ ((World.cell?_setCell_other _ ⟨w.heap.size, 0, none⟩ ⟨w.heap.size, 1, none⟩ _ (by simp)).trans q1)
    exact bodyPost_ret (v := .tuple #[.agg #[.int .u16 a, .int .u16 b], .nilIface]) (by simp [results, Ybad.results5, go_sem, z0, z1]) rfl ⟨rfl, (hbel.setCell (p := ⟨w.heap.size, 0, none⟩) (Nat.le_refl _) _).setCell (p := ⟨w.heap.size, 1, none⟩) (Nat.le_refl _) _⟩
end Go.Proofs.YbulkbkzyDoor
