import Derived.Test.YbulkbkpeGet
import Derived.Test.YbulkbkpePuts
import Derived.WalkSmall
namespace Go.Proofs.Ybulkbkpe
open Go.RowKit Go.MuLone Go.Conc

set_option maxHeartbeats 400000 in
theorem background_any (w : World) : Calls Yba.prog 10 #[] w fun e w' => e = .returned (.iface 71 (.agg #[])) ∧ w' = w := by
  go_enter Yba.func10, Yba.ntmps10
  go_wp2
  go_ret
  exact ⟨rfl, rfl⟩

/-- What holds between two steps of the script: the slots and the plain model agree: 'free' reads xs in both, in rows of their own. -/
def ScrRel (w : World) (wk : Int) (k : Nat) (mv : Value) (made : Int) (tok : Bool) (xs : List Int) (wr : World) : Prop :=
  ∃ fv, SlotsAt wr (w.heap.size + 1) w.heap.size wk made fv tok ∧ wr.ownsRow (w.heap.size + 2) 3 1 fv xs.length (xs.map (Value.int .i64)) ∧ wr.ownsRow (w.heap.size + 2) 3 1 mv xs.length (xs.map (Value.int .i64)) ∧
    (∀ j, fv.ownBlock = some j → mv.ownBlock ≠ some j) ∧ Below w.heap.size w wr ∧ w.heap.size + 2 ≤ wr.heap.size ∧ xs.length ≤ k ∧ 0 ≤ made ∧ made ≤ wk

theorem SlotsAt.turned {S : Nat → Prop} {w w' : World} {sb c : Nat} {wk made : Int} {fv : Value} {tok : Bool} (hS : SlotsAt w sb c wk made fv tok) (h : Turned S w w') (hsb : sb < w.heap.size) (hc : c < w.heap.size) (ns : ¬ S sb) (nc : ¬ S c) : SlotsAt w' sb c wk made fv tok := by
  obtain ⟨h0, h1, h2, h4, h5, hz, s, r, hch⟩ := hS
  have e : ∀ i, w'.cell? ⟨sb, i, none⟩ = w.cell? ⟨sb, i, none⟩ := fun i => h.cell hsb ns
  exact ⟨(e 0).trans h0, (e 1).trans h1, (e 2).trans h2, (e 4).trans h4, (e 5).trans h5, fun i => (h.frozen hsb ns).trans (hz i), s, r, (h.block c hc nc).trans hch⟩

theorem ScrRel.start (w : World) (wk : Int) (hwk : 0 ≤ wk) : ScrRel w wk 0 (.slice (some ⟨w.heap.size + 1 + 1, 0, none⟩) 0 0) 0 false [] ((fresh w wk).alloc (.cells #[] 3)) := by
  have hsz := fresh_size w wk
  have hT : Turned (fun _ => False) (fresh w wk) ((fresh w wk).alloc (.cells #[] 3)) := (Turned.refl _ _).alloc _
  refine ⟨.slice none 0 0, (fresh_slots w wk).turned hT (by omega) (by omega) id id, by simpa using World.ownsRow_nil _ _ _ _, ?_, by simp [Value.ownBlock], (fresh_below w wk).alloc (by omega) _, by simp; omega, Nat.le_refl _, Int.le_refl _, hwk⟩
  have := World.ownsRow_lit (base := w.heap.size + 2) (e := 3) (size := 1) (fresh w wk) #[] 0 (by omega) (Nat.zero_le _) (by simp)
  rw [hsz] at this
  simpa using this

/-- THE PLAIN MODEL's APPEND turns the model's own row alone. -/
theorem model_append {wr w1 : World} {o : Obj} {sb c base n1 n2 : Nat} {wk made : Int} {fv mv v' : Value} {tok : Bool} {xs1 xs2 : List Value} (hS : SlotsAt wr sb c wk made fv tok) (hf : wr.ownsRow base 3 1 fv n1 xs1) (hd : ∀ j, fv.ownBlock = some j → mv.ownBlock ≠ some j)
    (hsb : sb < base) (hcb : c < base) (hbase : base ≤ wr.heap.size) (hm : wr.ownsRow base 3 1 mv n2 xs2) (hgrow : (wr.alloc o).grownBy w1 mv.ownBlock) (hat : v'.ownBlock = mv.ownBlock ∨ v'.ownBlock = some (wr.heap.size + 1)) :
    SlotsAt w1 sb c wk made fv tok ∧ w1.ownsRow base 3 1 fv n1 xs1 ∧ (∀ j, fv.ownBlock = some j → v'.ownBlock ≠ some j) ∧ Turned (fun k => mv.ownBlock = some k) wr w1 := by
  have hT : Turned (fun k => mv.ownBlock = some k) wr w1 := ((Turned.refl _ wr).alloc o).grown hgrow (fun j e _ => e)
  refine ⟨hS.turned hT (by omega) (by omega) (fun e => by have := hm.lt _ e; omega) (fun e => by have := hm.lt _ e; omega), hT.owns hf (fun k hk => hd k hk), ?_, hT⟩
  intro j hj e
  rcases hat with h | h
  · exact hd j hj (h.symm.trans e)
  · have := hf.lt j hj
    rw [h] at e
    simp at e
    omega

section
variable {w wr w1 : World} {wk made : Int} {k : Nat} {mv : Value} {tok : Bool} {xs : List Int}
/-- A step that put x behind the model's row (and the slots' own). -/
theorem ScrRel.app {fv v' : Value} {x : Int} {ys : List Int} {o : Obj} {n2 : Nat} {xs2 : List Value} {W : World} (hS : SlotsAt wr (w.heap.size + 1) w.heap.size wk made fv tok) (hf : wr.ownsRow (w.heap.size + 2) 3 1 fv (ys ++ [x]).length ((ys ++ [x]).map (Value.int .i64)))
    (hd : ∀ j, fv.ownBlock = some j → mv.ownBlock ≠ some j) (hnx : Below w.heap.size w W) (hW : Below w.heap.size W wr) (hsz : w.heap.size + 2 ≤ wr.heap.size) (hm : wr.ownsRow (w.heap.size + 2) 3 1 mv n2 xs2)
    (hgrow : (wr.alloc o).grownBy w1 mv.ownBlock) (hat : v'.ownBlock = mv.ownBlock ∨ v'.ownBlock = some (wr.heap.size + 1)) (hown' : w1.ownsRow (w.heap.size + 2) 3 1 v' (ys.length + 1) (ys.map (Value.int .i64) ++ [.int .i64 x]))
    (hk : ys.length ≤ k) (h0 : 0 ≤ made) (h1 : made ≤ wk) : ScrRel w wk (k + 1) v' made tok (ys ++ [x]) w1 := by
  obtain ⟨a, b, c, hT⟩ := model_append hS hf hd (by omega) (by omega) hsz hm hgrow hat
  refine ⟨fv, a, b, by simpa using hown', c, (hnx.trans hW).trans (hT.below (by omega) ?_), Nat.le_trans hsz hT.size, by simp; omega, h0, h1⟩
  intro j hj
  have := hm.lt j hj
  omega
/-- The rows read off a row of one element and more. -/
theorem snoc_row {base n : Nat} {wr : World} {xs : List Int} {v : Value} (h : wr.ownsRow base 3 1 v xs.length (xs.map (Value.int .i64))) (hn : xs.length = n + 1) :
    ∃ g cap, v = .slice (some ⟨g, 0, none⟩) (n + 1) cap ∧ base ≤ g ∧ n + 1 ≤ cap ∧ wr.cell? ⟨g, n, none⟩ = some (.int .i64 (xs.getD n 0)) ∧ wr.ownsRow base 3 1 (.slice (some ⟨g, 0, none⟩) n cap) n ((xs.take n).map (Value.int .i64)) := by
  have h' := h
  rw [hn] at h'
  obtain ⟨g, cap, hv⟩ := Go.Joins.ownsRow_form h' (by omega)
  subst hv
  have hcell := h'.cellAt n (by omega)
  have hcap : n + 1 ≤ cap := by
    obtain ⟨_, hv | ⟨g', cap', cur, hv, _, _, hle, _⟩⟩ := h'
    · cases hv.1
    · simp at hv; omega
  refine ⟨g, cap, rfl, (h'.lt g rfl).1, hcap, ?_, ?_⟩
  · rw [hcell]
    simp [List.getElem?_eq_getElem (show n < xs.length by omega)]
  · have e : xs.map (Value.int .i64) = (xs.take n).map (Value.int .i64) ++ (xs.drop n).map (Value.int .i64) := by rw [← List.map_append, List.take_append_drop]
    rw [e] at h'
    exact ownsRow_pop (by simp; omega) h'
theorem row_form {base : Nat} {wr : World} {xs : List Int} {v : Value} (h : wr.ownsRow base 3 1 v xs.length (xs.map (Value.int .i64))) : ∃ a cap, v = .slice a xs.length cap := by
  rcases Go.Joins.ownsRow_forms h with ⟨h, h'⟩ | ⟨g, c, h⟩
  · exact ⟨_, _, by rw [h, h']⟩
  · exact ⟨_, _, h⟩
/-- Behind a put: the model's row still stands, apart from the slots'. -/
theorem put_model {fv fv' : Value} {n1 n2 : Nat} {xs1 xs2 : List Value} (hf : wr.ownsRow (w.heap.size + 2) 3 1 fv n1 xs1) (hm : wr.ownsRow (w.heap.size + 2) 3 1 mv n2 xs2) (hd : ∀ j, fv.ownBlock = some j → mv.ownBlock ≠ some j) (hsz : w.heap.size + 2 ≤ wr.heap.size)
    (hat : fv'.ownBlock = fv.ownBlock ∨ ∃ j, fv'.ownBlock = some j ∧ wr.heap.size ≤ j) (hT : Turned (fun j => j = w.heap.size + 1 ∨ j = w.heap.size ∨ fv.ownBlock = some j) wr w1) :
    w1.ownsRow (w.heap.size + 2) 3 1 mv n2 xs2 ∧ (∀ j, fv'.ownBlock = some j → mv.ownBlock ≠ some j) ∧ Below w.heap.size wr w1 ∧ w.heap.size + 2 ≤ w1.heap.size := by
  refine ⟨hT.owns hm (fun j hj hS => ?_), fun j hj e => ?_, hT.below (by omega) (fun j hj => ?_), Nat.le_trans hsz hT.size⟩
  · have := hm.lt j hj
    rcases hS with h | h | h
    · omega
    · omega
    · exact hd j h hj
  · have := hm.lt j e
    rcases hat with h | ⟨i, h, h'⟩
    · exact hd j (h.symm.trans hj) e
    · rw [h] at hj
      simp at hj
      omega
  · rcases hj with h | h | h
    · omega
    · omega
    · have := hf.lt j h; omega
theorem snoc_eq {n : Nat} {xs : List Int} (hn : xs.length = n + 1) : xs.take n ++ [xs.getD n 0] = xs := by
  have h := List.take_succ_eq_append_getElem (l := xs) (i := n) (by omega)
  rw [List.take_of_length_le (by omega)] at h
  have e : xs.getD n 0 = xs[n]'(by omega) := by simp [List.getElem?_eq_getElem (show n < xs.length by omega)]
  rw [e, ← h]
end

set_option maxRecDepth 100000 in
set_option maxHeartbeats 1000000 in
theorem script_any (a0 : Int) (a1 : Option Addr) (len1 cap1 : Nat) (z1 : List Int) (a2 : Option Addr) (len2 cap2 : Nat) (z2 : List Int) (w : World) (h00 : 0 ≤ a0) (h01 : a0 ≤ 255)
    (H1 : ∀ k, k < len1 → ∃ b off, a1 = some ⟨b, off, none⟩ ∧ b < w.heap.size ∧ w.cell? ⟨b, off + k, none⟩ = some (.int .u8 (z1[k]?.getD 0)) ∧ 0 ≤ z1[k]?.getD 0 ∧ z1[k]?.getD 0 ≤ 255)
    (H2 : ∀ k, k < len2 → ∃ b off, a2 = some ⟨b, off, none⟩ ∧ b < w.heap.size ∧ w.cell? ⟨b, off + k, none⟩ = some (.int .i64 (z2[k]?.getD 0))) (hl1 : len1 ≤ 1024) (hl2 : len2 ≤ 1024) :
    Calls Yba.prog 5 #[.int .u8 a0, .slice a1 len1 cap1, .slice a2 len2 cap2] w fun e w' => e = .returned (.bool true) ∧ Below w.heap.size w w' := by
  have H1h : Hid (∀ k, k < len1 → ∃ b off, a1 = some ⟨b, off, none⟩ ∧ b < w.heap.size ∧ w.cell? ⟨b, off + k, none⟩ = some (.int .u8 (z1[k]?.getD 0)) ∧ 0 ≤ z1[k]?.getD 0 ∧ z1[k]?.getD 0 ≤ 255) := H1
  have H2h : Hid (∀ k, k < len2 → ∃ b off, a2 = some ⟨b, off, none⟩ ∧ b < w.heap.size ∧ w.cell? ⟨b, off + k, none⟩ = some (.int .i64 (z2[k]?.getD 0))) := H2
  clear H1 H2
  obtain ⟨i0, hi, hzz0, hzz1, hzz2⟩ := info_parts info3
  go_enter Yba.func5, Yba.ntmps5
  go_wp2_with (first | (go_at_call 8; refine (newSlots_any _ _).mono ?_; rintro e w' ⟨rfl, rfl⟩) | (go_at_call 10; refine (background_any _).mono ?_; rintro e w' ⟨rfl, rfl⟩))
  have hw1 : 1 ≤ a0 % 5 + 1 ∧ a0 % 5 + 1 ≤ 5 := by omega
  go_loopw [10, 11, 12, 13] (fun mv md tk i wr => ∃ (k : Nat) (made : Int) (tok : Bool) (xs : List Int), k ≤ len1 ∧ i = .int .i64 k ∧ md = .int .i64 made ∧ tk = .bool tok ∧ ScrRel w (a0 % 5 + 1) k mv made tok xs wr) (fun _ _ _ i _ => len1 - (intOf i).toNat)
  case atStart => exact ⟨0, 0, false, [], Nat.zero_le _, rfl, rfl, rfl, ScrRel.start w (a0 % 5 + 1) (by omega)⟩
  case round =>
    obtain ⟨k, made, tok, xs, hk, rfl, rfl, rfl, fv, hS, hf, hm, hd, hnx, hsz, hxk, hm0, hm1⟩ := hrel
    by_cases hlt : k < len1
    · obtain ⟨b, off, ha, hb, hc, hz0, hz1⟩ := H1h.out k hlt
      subst ha
      have hc1 : wr.cell? ⟨b, off + k, none⟩ = some (.int .u8 (z1[k]?.getD 0)) := (hnx.cell (by exact hb)).trans hc
      clear hc
      by_cases hev : z1[k]?.getD 0 % 2 = 0
      · by_cases hne : xs.length = 0
        · by_cases hmw : made < a0 % 5 + 1
          · have hx : xs = [] := List.eq_nil_of_length_eq_zero hne
            subst hx
            obtain ⟨ma, mcap, rfl⟩ := row_form hm
            obtain ⟨fa, fcap, rfl⟩ := row_form hf
            go_wp2_with fail
            refine (get_make wr (w.heap.size + 1) w.heap.size fcap fa (a0 % 5 + 1) made tok _ hS (by omega) hm0 hmw (by omega)).mono ?_
            rintro e w1 ⟨rfl, hS', hT⟩
            have R : ScrRel w (a0 % 5 + 1) (k + 1) (.slice ma 0 mcap) (made + 1) tok [] w1 :=
              ⟨.slice fa 0 fcap, hS', hT.owns hf (fun j hj e => by have := hf.lt j hj; omega), hT.owns hm (fun j hj e => by have := hm.lt j hj; omega), hd, hnx.trans (hT.below (by omega) (fun j e => by omega)), Nat.le_trans hsz hT.size, Nat.zero_le _, by omega, by omega⟩
            clear hS hS' hT hf hm hd hnx hsz hc1
            go_wp2
            go_roundw
            case rel => exact ⟨k + 1, made + 1, tok, [], by omega, by go_num, rfl, rfl, R⟩
            case measure => simp [intOf]; omega
          · have hle : xs.length ≤ 0 := by omega
            have hmf : decide (made < a0 % 5 + 1) = false := by simpa using hmw
            clear hne
            obtain ⟨ma, mcap, rfl⟩ := row_form hm
            by_cases hv : 0 < len2
            · obtain ⟨b2, off2, ha2, hb2, hc2⟩ := H2h.out (k % len2) (Nat.mod_lt _ hv)
              subst ha2
              have hc3 : wr.cell? ⟨b2, off2 + k % len2, none⟩ = some (.int .i64 (z2[k % len2]?.getD 0)) := (hnx.cell (by exact hb2)).trans hc2
              have hmod0 : 0 ≤ (k : Int) % (len2 : Int) := Int.emod_nonneg _ (by omega)
              have hmod1 : (k : Int) % (len2 : Int) < (len2 : Int) := Int.emod_lt_of_pos _ (by omega)
              clear hc2
              go_wp2_with fail
              refine (put_any wr (w.heap.size + 1) w.heap.size (w.heap.size + 2) (a0 % 5 + 1) made fv tok xs _ hS (by omega) (by omega) (by omega) hsz hf (by omega)).mono ?_
              rintro e w1 ⟨rfl, fv', hS', hf', hat, hT⟩
              obtain ⟨hm', hd', hW', hsz'⟩ := put_model hf hm hd hsz hat hT
              clear hS hf hm hd hsz hat hT hc1 hc3 hmod0 hmod1
              go_wp2_with (at_builtin; refine wpList_append_own_at _ rfl _ _ 56 rfl (w.heap.size + 2) 3 i0 (.int .i64 0) 1 8 Yba.underlying56 hi hzz0 hzz1 hzz2 rfl (by decide) _ xs.length (xs.map (Value.int .i64)) rfl (hm'.alloc _) ⟨w1.heap.size, 0, none⟩ 1 1 [.int .i64 (z2[k % len2]?.getD 0)] rfl rfl (cell_one_new _ _ _) ?c2 ?c3 ?c4 ?c5 ?_)
              case c2 => intro u hu; simp at hu; subst hu; rfl
              case c3 => unfold maxLen; omega
              case c4 => omega
              case c5 => simp; omega
              intro v' w2 hown' hgrow _ hat
              have R : ScrRel w (a0 % 5 + 1) (k + 1) v' made true (xs ++ [z2[k % len2]?.getD 0]) w2 :=
                ScrRel.app (mv := .slice ma xs.length mcap) hS' hf' hd' hnx hW' hsz' hm' hgrow hat hown' hxk hm0 hm1
              clear hnx hS' hf' hd' hW' hsz' hm' hgrow hat hown'
              go_wp2
              go_roundw
              case rel => exact ⟨k + 1, made, true, xs ++ [z2[k % len2]?.getD 0], by omega, by go_num, rfl, rfl, R⟩
              case measure => simp [intOf]; omega
            · go_wp2_with fail
              refine (put_any wr (w.heap.size + 1) w.heap.size (w.heap.size + 2) (a0 % 5 + 1) made fv tok xs _ hS (by omega) (by omega) (by omega) hsz hf (by omega)).mono ?_
              rintro e w1 ⟨rfl, fv', hS', hf', hat, hT⟩
              obtain ⟨hm', hd', hW', hsz'⟩ := put_model hf hm hd hsz hat hT
              clear hS hf hm hd hsz hat hT hc1
              go_wp2_with (at_builtin; refine wpList_append_own_at _ rfl _ _ 56 rfl (w.heap.size + 2) 3 i0 (.int .i64 0) 1 8 Yba.underlying56 hi hzz0 hzz1 hzz2 rfl (by decide) _ xs.length (xs.map (Value.int .i64)) rfl (hm'.alloc _) ⟨w1.heap.size, 0, none⟩ 1 1 [.int .i64 ((k : Int) + 1)] rfl rfl (cell_one_new _ _ _) ?c2 ?c3 ?c4 ?c5 ?_)
              case c2 => intro u hu; simp at hu; subst hu; rfl
              case c3 => unfold maxLen; omega
              case c4 => omega
              case c5 => simp; omega
              intro v' w2 hown' hgrow _ hat
              have R : ScrRel w (a0 % 5 + 1) (k + 1) v' made true (xs ++ [(k : Int) + 1]) w2 :=
                ScrRel.app (mv := .slice ma xs.length mcap) hS' hf' hd' hnx hW' hsz' hm' hgrow hat hown' hxk hm0 hm1
              clear hnx hS' hf' hd' hW' hsz' hm' hgrow hat hown'
              go_wp2
              go_roundw
              case rel => exact ⟨k + 1, made, true, xs ++ [(k : Int) + 1], by omega, by go_num, rfl, rfl, R⟩
              case measure => simp [intOf]; omega
        · obtain ⟨n, hn⟩ : ∃ n, xs.length = n + 1 := ⟨xs.length - 1, by omega⟩
          have hsn := snoc_eq hn
          obtain ⟨m, mcap, rfl, hmb, hmc, hmx, hmo⟩ := snoc_row hm hn
          obtain ⟨g, gcap, rfl, hgb, hgc, hgx, hgo⟩ := snoc_row hf hn
          obtain ⟨x, hx⟩ : ∃ x, x = xs.getD n 0 := ⟨_, rfl⟩
          rw [← hx] at hmx hgx hsn
          have HX : Hid (xs.take n ++ [x] = xs) := hsn
          have HF : Hid (wr.ownsRow (w.heap.size + 2) 3 1 (.slice (some ⟨g, 0, none⟩) (n + 1) gcap) xs.length (xs.map (Value.int .i64))) := hf
          have hd' : ∀ j, (Value.slice (some ⟨g, 0, none⟩) (n + 1) gcap).ownBlock = some j → (Value.slice (some ⟨m, 0, none⟩) n mcap).ownBlock ≠ some j := hd
          have hl : (xs.take n).length = n := by simp; omega
          clear hx hsn hm hf hne hd
          by_cases hx0 : x = 0
          · have hxt : (x == 0) = true := by simpa using hx0
            go_wp2_with (at_builtin; refine wpList_append_own_at _ rfl _ _ 56 rfl (w.heap.size + 2) 3 i0 (.int .i64 0) 1 8 Yba.underlying56 hi hzz0 hzz1 hzz2 rfl (by decide) _ n ((xs.take n).map (Value.int .i64)) rfl (hmo.alloc _) ⟨wr.heap.size, 0, none⟩ 1 1 [.int .i64 0] rfl rfl (cell_one_new _ _ _) ?c2 ?c3 ?c4 ?c5 ?_)
            case c2 => intro u hu; simp at hu; subst hu; rfl
            case c3 => unfold maxLen; omega
            case c4 => omega
            case c5 => simp; omega
            intro v' w1 hown' hgrow _ hat
            subst hx0
            have R : ScrRel w (a0 % 5 + 1) (k + 1) v' made tok (xs.take n ++ [0]) w1 :=
              ScrRel.app (mv := .slice (some ⟨m, 0, none⟩) n mcap) hS (by rw [HX.out]; exact HF.out) hd' hnx (Below.refl _ _) hsz hmo hgrow hat (by rw [hl, List.map_take]; exact hown') (by omega) hm0 hm1
            clear hS hnx hsz hmo hgo hgrow hat hown' hmx hgx hc1 HF HX hd' hxt hl
            go_wp2
            go_roundw
            case rel => exact ⟨k + 1, made, tok, xs.take n ++ [0], by omega, by go_num, rfl, rfl, R⟩
            case measure => simp [intOf]; omega
          · have hxt : (x == 0) = false := by simpa using hx0
            go_wp2_with fail
            refine (get_pop wr (w.heap.size + 1) w.heap.size g n gcap (a0 % 5 + 1) made x tok _ hS (by omega) (by omega) hgx hxt (by omega) hgc).mono ?_
            rintro e w1 ⟨rfl, hS', hT⟩
            have R : ScrRel w (a0 % 5 + 1) (k + 1) (.slice (some ⟨m, 0, none⟩) n mcap) made tok (xs.take n) w1 := by
              refine ⟨.slice (some ⟨g, 0, none⟩) n gcap, hS', ?_, ?_, hd', hnx.trans (hT.below (by omega) (fun j e => by omega)), Nat.le_trans hsz hT.size, by omega, hm0, hm1⟩
              · rw [hl]; exact hT.owns hgo (fun j hj e => by have := hgo.lt j hj; omega)
              · rw [hl]; exact hT.owns hmo (fun j hj e => by have := hmo.lt j hj; omega)
            clear hS hnx hsz hmo hgo hmx hgx hc1 HF HX hd' hxt hl hS' hT
            go_wp2
            go_roundw
            case rel => exact ⟨k + 1, made, tok, xs.take n, by omega, by go_num, rfl, rfl, R⟩
            case measure => simp [intOf]; omega
      · have hodd : (z1[k]?.getD 0 % 2 == 0) = false := by simpa using hev
        obtain ⟨ma, mcap, rfl⟩ := row_form hm
        by_cases hv : 0 < len2
        · obtain ⟨b2, off2, ha2, hb2, hc2⟩ := H2h.out (k % len2) (Nat.mod_lt _ hv)
          subst ha2
          have hc3 : wr.cell? ⟨b2, off2 + k % len2, none⟩ = some (.int .i64 (z2[k % len2]?.getD 0)) := (hnx.cell (by exact hb2)).trans hc2
          have hmod0 : 0 ≤ (k : Int) % (len2 : Int) := Int.emod_nonneg _ (by omega)
          have hmod1 : (k : Int) % (len2 : Int) < (len2 : Int) := Int.emod_lt_of_pos _ (by omega)
          clear hc2
          go_wp2_with fail
          refine (put_any wr (w.heap.size + 1) w.heap.size (w.heap.size + 2) (a0 % 5 + 1) made fv tok xs _ hS (by omega) (by omega) (by omega) hsz hf (by omega)).mono ?_
          rintro e w1 ⟨rfl, fv', hS', hf', hat, hT⟩
          obtain ⟨hm', hd', hW', hsz'⟩ := put_model hf hm hd hsz hat hT
          clear hS hf hm hd hsz hat hT hc1 hc3 hmod0 hmod1
          go_wp2_with (at_builtin; refine wpList_append_own_at _ rfl _ _ 56 rfl (w.heap.size + 2) 3 i0 (.int .i64 0) 1 8 Yba.underlying56 hi hzz0 hzz1 hzz2 rfl (by decide) _ xs.length (xs.map (Value.int .i64)) rfl (hm'.alloc _) ⟨w1.heap.size, 0, none⟩ 1 1 [.int .i64 (z2[k % len2]?.getD 0)] rfl rfl (cell_one_new _ _ _) ?c2 ?c3 ?c4 ?c5 ?_)
          case c2 => intro u hu; simp at hu; subst hu; rfl
          case c3 => unfold maxLen; omega
          case c4 => omega
          case c5 => simp; omega
          intro v' w2 hown' hgrow _ hat
          have R : ScrRel w (a0 % 5 + 1) (k + 1) v' made true (xs ++ [z2[k % len2]?.getD 0]) w2 :=
            ScrRel.app (mv := .slice ma xs.length mcap) hS' hf' hd' hnx hW' hsz' hm' hgrow hat hown' hxk hm0 hm1
          clear hnx hS' hf' hd' hW' hsz' hm' hgrow hat hown'
          go_wp2
          go_roundw
          case rel => exact ⟨k + 1, made, true, xs ++ [z2[k % len2]?.getD 0], by omega, by go_num, rfl, rfl, R⟩
          case measure => simp [intOf]; omega
        · go_wp2_with fail
          refine (put_any wr (w.heap.size + 1) w.heap.size (w.heap.size + 2) (a0 % 5 + 1) made fv tok xs _ hS (by omega) (by omega) (by omega) hsz hf (by omega)).mono ?_
          rintro e w1 ⟨rfl, fv', hS', hf', hat, hT⟩
          obtain ⟨hm', hd', hW', hsz'⟩ := put_model hf hm hd hsz hat hT
          clear hS hf hm hd hsz hat hT hc1
          go_wp2_with (at_builtin; refine wpList_append_own_at _ rfl _ _ 56 rfl (w.heap.size + 2) 3 i0 (.int .i64 0) 1 8 Yba.underlying56 hi hzz0 hzz1 hzz2 rfl (by decide) _ xs.length (xs.map (Value.int .i64)) rfl (hm'.alloc _) ⟨w1.heap.size, 0, none⟩ 1 1 [.int .i64 ((k : Int) + 1)] rfl rfl (cell_one_new _ _ _) ?c2 ?c3 ?c4 ?c5 ?_)
          case c2 => intro u hu; simp at hu; subst hu; rfl
          case c3 => unfold maxLen; omega
          case c4 => omega
          case c5 => simp; omega
          intro v' w2 hown' hgrow _ hat
          have R : ScrRel w (a0 % 5 + 1) (k + 1) v' made true (xs ++ [(k : Int) + 1]) w2 :=
            ScrRel.app (mv := .slice ma xs.length mcap) hS' hf' hd' hnx hW' hsz' hm' hgrow hat hown' hxk hm0 hm1
          clear hnx hS' hf' hd' hW' hsz' hm' hgrow hat hown'
          go_wp2
          go_roundw
          case rel => exact ⟨k + 1, made, true, xs ++ [(k : Int) + 1], by omega, by go_num, rfl, rfl, R⟩
          case measure => simp [intOf]; omega
    · obtain ⟨ma, mcap, rfl⟩ := row_form hm
      obtain ⟨fa, fcap, rfl⟩ := row_form hf
      obtain ⟨c0, c1, c2, c4, c5, hzz, s, r, hch⟩ := hS
      have HC : Hid (wr.heap[w.heap.size]? = some (.chan 1 (if tok then #[.agg #[]] else #[]) false s r false)) := hch
      clear hch hzz
      go_wp2
      go_loopw [17] (fun i wx => ∃ j : Nat, j ≤ xs.length ∧ i = .int .i64 j ∧ ∃ n, wx = wr.drewN n) (fun i _ => xs.length - (intOf i).toNat)
      case atStart => exact ⟨0, Nat.zero_le _, rfl, 0, rfl⟩
      case round =>
        obtain ⟨j, hj, rfl, n, rfl⟩ := hrel
        by_cases hjk : j < xs.length
        · obtain ⟨g, fc, hg⟩ := Go.Joins.ownsRow_form hf (by omega)
          obtain ⟨m, mc, hg'⟩ := Go.Joins.ownsRow_form hm (by omega)
          simp only [Value.slice.injEq] at hg hg'
          obtain ⟨hg1, _, hg2⟩ := hg
          obtain ⟨hm1', _, hm2⟩ := hg'
          subst hg1
          subst hm1'
          have hA : wr.cell? ⟨g, j, none⟩ = some (.int .i64 (xs[j]?.getD 0)) := by
            rw [hf.cellAt j (by omega)]
            simp [hjk]
          have hB : wr.cell? ⟨m, j, none⟩ = some (.int .i64 (xs[j]?.getD 0)) := by
            rw [hm.cellAt j (by omega)]
            simp [hjk]
          clear hf hm hd hg2 hm2 c0 c1 c2 c4
          go_wp2
          go_quiet (fail)
          go_wp2
          go_roundw
          case rel => exact ⟨j + 1, by omega, by go_num, _, rfl⟩
          case measure => simp [intOf]; omega
        · have hch' : (wr.drewN n).heap[w.heap.size]? = some (.chan 1 (if tok = true then #[.agg #[]] else #[]) false s r false) := HC.out
          clear HC hf hm hd
          cases tok
          · rw [if_neg (by simp)] at hch'
            have hlen := fun ty => run_len_chan (P := Yba.prog) 60 ty Yba.underlying60 hch'
            clear hch'
            go_wp2
            go_ret
            exact ⟨rfl, hnx.trans ⟨rfl, rfl, rfl, Nat.le_refl _, fun _ _ => rfl⟩⟩
          · rw [if_pos rfl] at hch'
            have hlen := fun ty => run_len_chan (P := Yba.prog) 60 ty Yba.underlying60 hch'
            clear hch'
            go_wp2
            go_ret
            exact ⟨rfl, hnx.trans ⟨rfl, rfl, rfl, Nat.le_refl _, fun _ _ => rfl⟩⟩

set_option maxRecDepth 100000 in
theorem script_long (a0 : Int) (a1 : Option Addr) (len1 cap1 : Nat) (a2 : Option Addr) (len2 cap2 : Nat) (w : World) (h : 1024 < len1 ∨ 1024 < len2) :
    Calls Yba.prog 5 #[.int .u8 a0, .slice a1 len1 cap1, .slice a2 len2 cap2] w fun e w' => e = .returned (.bool true) ∧ Below w.heap.size w w' := by
  by_cases h1 : 1024 < len1
  · have h' : (1024 : Int) < (len1 : Int) := by omega
    go_enter Yba.func5, Yba.ntmps5
    go_wp2
    go_ret
    exact ⟨rfl, Below.refl _ _⟩
  · have h' : (1024 : Int) < (len2 : Int) := by omega
    have h'' : ¬ (1024 : Int) < (len1 : Int) := by omega
    clear h
    go_enter Yba.func5, Yba.ntmps5
    go_wp2
    go_ret
    exact ⟨rfl, Below.refl _ _⟩
end Go.Proofs.Ybulkbkpe
