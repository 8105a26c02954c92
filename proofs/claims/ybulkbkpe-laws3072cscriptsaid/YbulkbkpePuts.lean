import Derived.Test.YbulkbkpeSlots
import Derived.Deep.QuietTactic
import Derived.BigQuiet
namespace Go.Proofs.Ybulkbkpe
open Go.RowKit Go.MuLone Go.Conc

/-- What holds between two puts: k of the numbers have been put. -/
def PutRel (w : World) (zs : List Int) (k : Nat) (wr : World) : Prop :=
  ∃ fv, SlotsAt wr (w.heap.size + 1) w.heap.size 3 0 fv (decide (0 < k)) ∧ wr.ownsRow (w.heap.size + 2) 3 1 fv (zs.take k).length ((zs.take k).map (Value.int .i64)) ∧ Below w.heap.size w wr ∧ w.heap.size + 2 ≤ wr.heap.size

/-- The fresh slots. -/
def fresh (w : World) (n : Int) : World := (w.alloc (.chan 1 #[] false 0 0 false)).alloc (.cells #[.int .i64 n, .chan (some w.heap.size), .int .i32 0, .int .u32 0, .int .i64 0, .slice none 0 0] 62)
theorem fresh_size (w : World) (n : Int) : (fresh w n).heap.size = w.heap.size + 2 := by simp [fresh]
theorem fresh_below (w : World) (n : Int) : Below w.heap.size w (fresh w n) := ((Below.refl _ _).alloc (Nat.le_refl _) _).alloc (by simp) _
theorem fresh_slots (w : World) (n : Int) : SlotsAt (fresh w n) (w.heap.size + 1) w.heap.size n 0 (.slice none 0 0) false := by
  have hc : ∀ i, (fresh w n).cell? ⟨w.heap.size + 1, i, none⟩ = #[Value.int .i64 n, .chan (some w.heap.size), .int .i32 0, .int .u32 0, .int .i64 0, .slice none 0 0][i]? := fun i => World.cell?_alloc_at _ _ _ _ (by simp)
  refine ⟨by rw [hc]; rfl, by rw [hc]; rfl, by rw [hc]; rfl, by rw [hc]; rfl, by rw [hc]; rfl, fun i => ?_, 0, 0, ?_⟩
  · have e := heap_alloc_new (w.alloc (.chan 1 #[] false 0 0 false)) (.cells #[.int .i64 n, .chan (some w.heap.size), .int .i32 0, .int .u32 0, .int .i64 0, .slice none 0 0] 62)
    rw [World.size_alloc] at e
    simp only [World.frozen?, fresh, e]
    simp
  · show (fresh w n).heap[w.heap.size]? = _
    unfold fresh
    rw [Below.heap_alloc _ _ _ (by simp)]
    exact heap_alloc_new w _
theorem PutRel.start (w : World) (zs : List Int) : PutRel w zs 0 (fresh w 3) :=
  ⟨_, fresh_slots w 3, by simpa using World.ownsRow_nil _ _ _ _, fresh_below w 3, by rw [fresh_size]; omega⟩
/-- One put more. -/
theorem PutRel.step {w wr w' : World} {zs : List Int} {k : Nat} {fv fv' : Value} (hk : k < zs.length) (hnx : Below w.heap.size w wr) (hsz : w.heap.size + 2 ≤ wr.heap.size) (hown : wr.ownsRow (w.heap.size + 2) 3 1 fv (zs.take k).length ((zs.take k).map (Value.int .i64)))
    (hS : SlotsAt w' (w.heap.size + 1) w.heap.size 3 0 fv' true) (hown' : w'.ownsRow (w.heap.size + 2) 3 1 fv' (zs.take k ++ [zs[k]?.getD 0]).length ((zs.take k ++ [zs[k]?.getD 0]).map (Value.int .i64)))
    (hT : Turned (fun j => j = w.heap.size + 1 ∨ j = w.heap.size ∨ fv.ownBlock = some j) wr w') : PutRel w zs (k + 1) w' := by
  have e : zs.take (k + 1) = zs.take k ++ [zs[k]?.getD 0] := by
    rw [List.take_succ_eq_append_getElem hk]; simp [hk]
  refine ⟨fv', by simpa using hS, by rw [e]; exact hown', hnx.trans (hT.below (by have := hnx.size; omega) ?_), Nat.le_trans hsz hT.size⟩
  intro j hj
  rcases hj with h | h | h
  · omega
  · omega
  · have := hown.lt j h; omega

set_option maxRecDepth 100000 in
set_option maxHeartbeats 1000000 in
theorem puts_row (b off len cap : Nat) (zs : List Int) (w : World) (hlc : len ≤ cap) (hz : zs.length = cap) (hb : b < w.heap.size)
    (hc : ∀ i, i < zs.length → w.cell? ⟨b, off + i, none⟩ = some (.int .i64 (zs.getD i 0))) (hl : len ≤ 1024) :
    Calls Yba.prog 4 #[.slice (some ⟨b, off, none⟩) len cap] w fun e w' => e = .returned (.bool true) ∧ Below w.heap.size w w' := by
  go_enter Yba.func4, Yba.ntmps4
  go_wp2_with (go_at_call 8; refine (newSlots_any _ _).mono ?_; rintro e w' ⟨rfl, rfl⟩)
  go_loopw [4] (fun i wr => ∃ k : Nat, k ≤ len ∧ i = .int .i64 k ∧ PutRel w zs k wr) (fun i _ => len - (intOf i).toNat)
  case atStart => exact ⟨0, Nat.zero_le _, rfl, PutRel.start w zs⟩
  case round =>
    obtain ⟨k, hk, rfl, fv, hS, hown, hnx, hsz⟩ := hrel
    have hcx : k < len → wr.cell? ⟨b, off + k, none⟩ = some (.int .i64 (zs.getD k 0)) := fun _ => (hnx.cell (by exact hb)).trans (hc k (by omega))
    by_cases hlt : k < len
    · have hc1 := hcx hlt
      go_wp2_with fail
      refine (put_any wr _ _ (w.heap.size + 2) 3 0 fv _ (zs.take k) _ hS (by omega) (by omega) (by omega) hsz hown (by simp; omega)).mono ?_
      rintro e w1 ⟨rfl, fv', hS', hown', _, hT⟩
      have R := PutRel.step (by omega) hnx hsz hown hS' hown' hT
      clear hS hown hnx hsz hS' hown' hT hcx hc1
      go_wp2
      go_roundw
      case rel => exact ⟨k + 1, by omega, by go_num, R⟩
      case measure => simp [intOf]; omega
    · obtain rfl : k = len := by omega
      have hfl : (zs.take k).length = k := by simp; omega
      rw [hfl] at hown
      obtain ⟨fa, fcap, hfv⟩ : ∃ fa fcap, fv = .slice fa k fcap := by
        rcases Go.Joins.ownsRow_forms hown with ⟨h, h'⟩ | ⟨g, c, h⟩
        · exact ⟨_, _, by rw [h, h']⟩
        · exact ⟨_, _, h⟩
      subst hfv
      obtain ⟨h0, h1, h2, h4, h5, hzz, s, r, hch⟩ := hS
      go_wp2
      go_loopw [5] (fun i wx => ∃ j : Nat, j ≤ k ∧ i = .int .i64 j ∧ ∃ n, wx = wr.drewN n) (fun i _ => k - (intOf i).toNat)
      case atStart => exact ⟨0, Nat.zero_le _, rfl, 0, rfl⟩
      case round =>
        obtain ⟨j, hj, rfl, n, rfl⟩ := hrel
        by_cases hjk : j < k
        · obtain ⟨g, fc, hg⟩ := Go.Joins.ownsRow_form hown (by omega)
          simp only [Value.slice.injEq] at hg
          obtain ⟨hg1, _, hg2⟩ := hg
          subst hg1
          have hA : wr.cell? ⟨g, j, none⟩ = some (.int .i64 (zs[j]?.getD 0)) := by
            rw [hown.cellAt j (by omega)]
            simp [hjk, List.getElem?_eq_getElem (show j < zs.length by omega)]
          have hB : wr.cell? ⟨b, off + j, none⟩ = some (.int .i64 (zs[j]?.getD 0)) := (hnx.cell (by exact hb)).trans (by have := hc j (by omega); simpa using this)
          clear hcx hown hg2 hch h0 h1 h2 h4 hzz hc
          go_wp2
          go_quiet (fail)
          go_wp2
          go_roundw
          case rel => exact ⟨j + 1, by omega, by go_num, _, rfl⟩
          case measure => simp [intOf]; omega
        · obtain rfl : j = k := by omega
          have hch' : (wr.drewN n).heap[w.heap.size]? = some (.chan 1 (if decide (0 < j) = true then #[.agg #[]] else #[]) false s r false) := hch
          clear hch hcx hc hown hzz
          by_cases hp : 0 < j
          · have hd : decide (0 < j) = true := by simpa using hp
            rw [if_pos hd] at hch'
            have hlen := fun ty => run_len_chan (P := Yba.prog) 60 ty Yba.underlying60 hch'
            clear hch' hd
            go_wp2
            go_ret
            exact ⟨rfl, hnx.trans ⟨rfl, rfl, rfl, Nat.le_refl _, fun _ _ => rfl⟩⟩
          · have hd : ¬ decide (0 < j) = true := by simpa using hp
            rw [if_neg hd] at hch'
            have hlen := fun ty => run_len_chan (P := Yba.prog) 60 ty Yba.underlying60 hch'
            clear hch' hd
            go_wp2
            go_ret
            exact ⟨rfl, hnx.trans ⟨rfl, rfl, rfl, Nat.le_refl _, fun _ _ => rfl⟩⟩

set_option maxRecDepth 100000 in
set_option maxHeartbeats 1000000 in
theorem puts_empty (a0 : Option Addr) (cap : Nat) (w : World) :
    Calls Yba.prog 4 #[.slice a0 0 cap] w fun e w' => e = .returned (.bool true) ∧ Below w.heap.size w w' := by
  go_enter Yba.func4, Yba.ntmps4
  go_wp2_with (go_at_call 8; refine (newSlots_any _ _).mono ?_; rintro e w' ⟨rfl, rfl⟩)
  go_loopw [4] (fun i wr => i = .int .i64 0 ∧ wr = fresh w 3) (fun _ _ => 0)
  case atStart => exact ⟨rfl, rfl⟩
  case round =>
    obtain ⟨rfl, rfl⟩ := hrel
    obtain ⟨h0, h1, h2, h4, h5, hzz, s, r, hch⟩ := fresh_slots w 3
    have hnx := fresh_below w 3
    have hlen := fun ty => run_len_chan (P := Yba.prog) 60 ty Yba.underlying60 hch
    clear hch hzz
    obtain ⟨W, hW⟩ : ∃ W, W = fresh w 3 := ⟨_, rfl⟩
    rw [← hW] at h0 h1 h2 h4 h5 hnx hlen ⊢
    clear hW
    go_wp2
    go_loopw [5] (fun i wx => i = .int .i64 0 ∧ wx = W) (fun _ _ => 0)
    case atStart => exact ⟨rfl, rfl⟩
    case round =>
      obtain ⟨rfl, rfl⟩ := hrel
      go_wp2
      go_ret
      exact ⟨rfl, hnx⟩

set_option maxRecDepth 100000 in
theorem puts_long (a0 : Option Addr) (len cap : Nat) (w : World) (h : 1024 < len) :
    Calls Yba.prog 4 #[.slice a0 len cap] w fun e w' => e = .returned (.bool true) ∧ Below w.heap.size w w' := by
  have h' : (1024 : Int) < (len : Int) := by omega
  go_enter Yba.func4, Yba.ntmps4
  go_wp2
  go_ret
  exact ⟨rfl, Below.refl _ _⟩
end Go.Proofs.Ybulkbkpe
