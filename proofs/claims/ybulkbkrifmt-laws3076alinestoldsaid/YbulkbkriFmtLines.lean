import Derived.Test.YbulkbkriFmtErr
namespace Go.Proofs.YbulkbkriFmt
open Go.RowKit Go.Extern.Stop Go.Stop Go.Extern

set_option maxRecDepth 100000 in
set_option maxHeartbeats 1000000 in
/-- zzs3076aeqlog of two rows that hold the same bytes. -/
theorem eqlog_same (w : World) (base : Nat) (av bv : Value) (L : List Int) (ha : w.ownsRow base 5 1 av L.length (L.map (Value.int .u8))) (hb : w.ownsRow base 5 1 bv L.length (L.map (Value.int .u8))) (hn : L.length ≤ 4096) :
    Calls Ybaf.prog 5 #[av, bv] w fun e w' => e = .returned (.bool true) ∧ ∃ n, w' = w.drewN n := by
  obtain ⟨aa, ac, rfl⟩ : ∃ a cap, av = .slice a L.length cap := by
    rcases Go.Joins.ownsRow_forms ha with ⟨h, h'⟩ | ⟨g, c, h⟩
    · exact ⟨_, _, by rw [h, h']⟩
    · exact ⟨_, _, h⟩
  obtain ⟨ba, bc, rfl⟩ : ∃ a cap, bv = .slice a L.length cap := by
    rcases Go.Joins.ownsRow_forms hb with ⟨h, h'⟩ | ⟨g, c, h⟩
    · exact ⟨_, _, by rw [h, h']⟩
    · exact ⟨_, _, h⟩
  go_enter Ybaf.func5, Ybaf.ntmps5
  go_wp2
  go_loopw [5] (fun i wx => ∃ j : Nat, j ≤ L.length ∧ i = .int .i64 j ∧ ∃ n, wx = w.drewN n) (fun i _ => L.length - (intOf i).toNat)
  case atStart => exact ⟨0, Nat.zero_le _, rfl, 0, rfl⟩
  case round =>
    obtain ⟨j, hj, rfl, n, rfl⟩ := hrel
    by_cases hjk : j < L.length
    · obtain ⟨g, fc, hg⟩ := Go.Joins.ownsRow_form ha (by omega)
      obtain ⟨m, mc, hg'⟩ := Go.Joins.ownsRow_form hb (by omega)
      simp only [Value.slice.injEq] at hg hg'
      obtain ⟨hg1, _, hg2⟩ := hg
      obtain ⟨hm1', _, hm2⟩ := hg'
      subst hg1
      subst hm1'
      have hA : w.cell? ⟨g, j, none⟩ = some (.int .u8 (L[j]?.getD 0)) := by
        rw [ha.cellAt j (by omega)]
        simp [hjk]
      have hB : w.cell? ⟨m, j, none⟩ = some (.int .u8 (L[j]?.getD 0)) := by
        rw [hb.cellAt j (by omega)]
        simp [hjk]
      clear ha hb hg2 hm2
      go_wp2
      go_quiet (fail)
      go_wp2
      go_roundw
      case rel => exact ⟨j + 1, by omega, by go_num, _, rfl⟩
      case measure => simp [intOf]; omega
    · go_wp2
      go_ret
      exact ⟨rfl, n, rfl⟩

theorem HAt.turned {S : Nat → Prop} {pb vb base : Nat} {w w1 : World} {st old new : Int} {lv : Value} {L : List Int} (hA : HAt pb vb base w st old new lv L) (hT : Turned S w w1) (hp : ¬ S pb) (hv : ¬ S vb) (hl : ∀ j, lv.ownBlock = some j → ¬ S j) : HAt pb vb base w1 st old new lv L := by
  obtain ⟨⟨p0, p1, p4, p5, pz⟩, hlog, hzero, hown, hpv, hpb, hvb, hbase⟩ := hA
  have h1 : pb < w.heap.size := by omega
  have h2 : vb < w.heap.size := by omega
  have e : ∀ i, w1.cell? ⟨pb, i, none⟩ = w.cell? ⟨pb, i, none⟩ := fun i => hT.cell h1 hp
  exact ⟨⟨(e 0).trans p0, (e 1).trans p1, (e 4).trans p4, (e 5).trans p5, fun i => (hT.frozen h1 hp).trans (pz i)⟩, (hT.cell h2 hv).trans hlog, (hT.frozen h2 hv).trans hzero, hT.owns hown hl, hpv, hpb, hvb, Nat.le_trans hbase hT.size⟩

/-- The parser and the plain model's list, in rows of their own. -/
def Mid (w : World) (st old new : Int) (L : List Int) (wv : Value) (Lw : List Int) (wr : World) : Prop :=
  ∃ lv, HAt (w.heap.size + 1) w.heap.size (w.heap.size + 2) wr st old new lv L ∧ wr.ownsRow (w.heap.size + 2) 5 1 wv Lw.length (Lw.map (Value.int .u8)) ∧ (∀ j, lv.ownBlock = some j → wv.ownBlock ≠ some j) ∧ Below w.heap.size w wr

section
variable {w wr w1 w2 : World} {st old new : Int} {L Lw : List Int} {wv v' : Value}
theorem Mid.owns (h : Mid w st old new L wv Lw wr) : wr.ownsRow (w.heap.size + 2) 5 1 wv Lw.length (Lw.map (Value.int .u8)) := by obtain ⟨_, _, h, _⟩ := h; exact h
theorem Mid.size (h : Mid w st old new L wv Lw wr) : w.heap.size + 2 ≤ wr.heap.size := by obtain ⟨_, h, _⟩ := h; exact h.hbase
theorem Mid.belowW (h : Mid w st old new L wv Lw wr) : Below w.heap.size w wr := by obtain ⟨_, _, _, _, h⟩ := h; exact h
/-- New blocks, draws: nothing turns. -/
theorem Mid.below (h : Mid w st old new L wv Lw wr) (hb : Below wr.heap.size wr w1) : Mid w st old new L wv Lw w1 := by
  obtain ⟨lv, hA, hw, hd, hnx⟩ := h
  have hT : Turned (fun _ => False) wr w1 := ⟨hb.os, hb.tape, hb.output, hb.size, fun k hk _ => hb.block k hk⟩
  have hsz := hA.hbase
  exact ⟨lv, hA.turned hT id id (fun _ _ => id), hT.owns hw (fun _ _ => id), hd, hnx.trans (hb.mono (by omega))⟩
theorem Mid.alloc (h : Mid w st old new L wv Lw wr) (o : Obj) : Mid w st old new L wv Lw (wr.alloc o) := h.below ((Below.refl _ _).alloc (Nat.le_refl _) _)
/-- A step of the parser's. -/
theorem Mid.hunk {st' old' new' : Int} {L' : List Int} {lv : Value} (hA : HAt (w.heap.size + 1) w.heap.size (w.heap.size + 2) wr st old new lv L) (hw : wr.ownsRow (w.heap.size + 2) 5 1 wv Lw.length (Lw.map (Value.int .u8)))
    (hd : ∀ j, lv.ownBlock = some j → wv.ownBlock ≠ some j) (hnx : Below w.heap.size w wr) (hs : HStep (w.heap.size + 1) w.heap.size (w.heap.size + 2) wr lv st' old' new' L' w1) : Mid w st' old' new' L' wv Lw w1 := by
  obtain ⟨lv', hA', hb, hT⟩ := hs
  have hsz := hA.hbase
  refine ⟨lv', hA', hT.owns hw ?_, ?_, hnx.trans (hT.below (by omega) ?_)⟩
  · rintro j hj (h | h | h)
    · have := hw.lt j hj; omega
    · have := hw.lt j hj; omega
    · exact hd j h hj
  · intro j hj e
    rcases hb j hj with h | h
    · exact hd j h e
    · have := hw.lt j e; omega
  · rintro j (h | h | h)
    · omega
    · omega
    · have := hA.owns.lt j h; omega
/-- The plain model's append. -/
theorem Mid.app {c : Int} {o : Obj} (h : Mid w st old new L wv Lw wr) (hgrow : (wr.alloc o).grownBy w1 wv.ownBlock) (hat : v'.ownBlock = wv.ownBlock ∨ v'.ownBlock = some (wr.heap.size + 1))
    (hown' : w1.ownsRow (w.heap.size + 2) 5 1 v' (Lw.length + 1) (Lw.map (Value.int .u8) ++ [.int .u8 c])) : Mid w st old new L v' (Lw ++ [c]) w1 := by
  obtain ⟨lv, hA, hw, hd, hnx⟩ := h
  have hT : Turned (fun k => wv.ownBlock = some k) wr w1 := ((Turned.refl _ wr).alloc o).grown hgrow (fun j e _ => e)
  have hsz := hA.hbase
  refine ⟨lv, hA.turned hT (fun e => by have := hw.lt _ e; omega) (fun e => by have := hw.lt _ e; omega) (fun j hj => hd j hj), by simpa using hown', ?_, hnx.trans (hT.below (by omega) (fun j hj => by have := hw.lt j hj; omega))⟩
  intro j hj e
  rcases hat with h | h
  · exact hd j hj (h.symm.trans e)
  · have := hA.owns.lt j hj
    rw [h] at e
    simp at e
    omega
end

theorem closeS_yes {st old new : Int} (h : old = 0 ∧ new = 0) : closeS st old new = 3 := if_pos h
theorem closeS_no {st old new : Int} (h : ¬ (old = 0 ∧ new = 0)) : closeS st old new = st := if_neg h
theorem closeL_yes {L : List Int} {old new : Int} (h : old = 0 ∧ new = 0) : closeL L old new = L ++ [69] := if_pos h
theorem closeL_no {L : List Int} {old new : Int} (h : ¬ (old = 0 ∧ new = 0)) : closeL L old new = L := if_neg h

/-- The start: the visitor, the parser, the model's empty list. -/
def start0 (w : World) (mo mn : Int) : World :=
  (w.alloc (.cells #[.slice none 0 0] 25)).alloc (.cells #[.iface 23 (.pointer (some ⟨w.heap.size, 0, none⟩)), .int .i64 4, .int .i64 0, .string ⟨#[]⟩, .int .i64 mo, .int .i64 mn, .nilIface, .map none, .string ⟨#[]⟩, .int .i64 0, .bool false, .bool false] 35)
theorem start_mid (w : World) (mo mn : Int) : Mid w 4 mo mn [] (.slice (some ⟨w.heap.size + 1 + 1, 0, none⟩) 0 0) [] ((start0 w mo mn).alloc (.cells #[] 5)) := by
  have hsz : (start0 w mo mn).heap.size = w.heap.size + 2 := by simp [start0]
  have hblk := heap_alloc_new (w.alloc (.cells #[.slice none 0 0] 25)) (.cells #[.iface 23 (.pointer (some ⟨w.heap.size, 0, none⟩)), .int .i64 4, .int .i64 0, .string ⟨#[]⟩, .int .i64 mo, .int .i64 mn, .nilIface, .map none, .string ⟨#[]⟩, .int .i64 0, .bool false, .bool false] 35)
  rw [World.size_alloc] at hblk
  have hblk0 : (start0 w mo mn).heap[w.heap.size + 1]? = _ := hblk
  have hlog : (start0 w mo mn).heap[w.heap.size]? = some (.cells #[.slice none 0 0] 25) := by
    unfold start0
    rw [Below.heap_alloc _ _ _ (by simp)]
    exact heap_alloc_new w _
  have hc : ∀ i, (start0 w mo mn).cell? ⟨w.heap.size + 1, i, none⟩ = #[Value.iface 23 (.pointer (some ⟨w.heap.size, 0, none⟩)), .int .i64 4, .int .i64 0, .string ⟨#[]⟩, .int .i64 mo, .int .i64 mn, .nilIface, .map none, .string ⟨#[]⟩, .int .i64 0, .bool false, .bool false][i]? :=
    fun i => World.cell?_alloc_at _ _ _ _ (by simp)
  have hA : HAt (w.heap.size + 1) w.heap.size (w.heap.size + 2) (start0 w mo mn) 4 mo mn (.slice none 0 0) [] :=
    ⟨⟨by rw [hc]; rfl, by rw [hc]; rfl, by rw [hc]; rfl, by rw [hc]; rfl, fun i => by simp [World.frozen?, hblk0]⟩, by simp [World.cell?, hlog], by simp [World.frozen?, hlog], by simpa using World.ownsRow_nil _ _ _ _, by omega, by omega, by omega, by omega⟩
  have hT : Turned (fun _ => False) (start0 w mo mn) ((start0 w mo mn).alloc (.cells #[] 5)) := (Turned.refl _ _).alloc _
  refine ⟨.slice none 0 0, hA.turned hT id id (fun _ _ => id), ?_, by simp [Value.ownBlock], ((((Below.refl _ _).alloc (Nat.le_refl _) _).alloc (by simp) _).alloc (by simp; omega) _)⟩
  have := World.ownsRow_lit (base := w.heap.size + 2) (e := 5) (size := 1) (start0 w mo mn) #[] 0 (by omega) (Nat.zero_le _) (by simp)
  rw [hsz] at this
  simpa using this

set_option maxRecDepth 100000 in
set_option maxHeartbeats 1000000 in
theorem lines_any (F : Interp) (a0 a1 : Int) (a2 : Option Addr) (len cap : Nat) (zs : List Int) (w : World) (hF : F.answers w.tape) (h00 : 0 ≤ a0) (h01 : a0 ≤ 255) (h10 : 0 ≤ a1) (h11 : a1 ≤ 255)
    (H : ∀ k, k < len → ∃ b off, a2 = some ⟨b, off, none⟩ ∧ b < w.heap.size ∧ w.cell? ⟨b, off + k, none⟩ = some (.int .u8 (zs[k]?.getD 0)) ∧ 0 ≤ zs[k]?.getD 0 ∧ zs[k]?.getD 0 ≤ 255) (hl : len ≤ 1024) :
    Calls Ybaf.prog 3 #[.int .u8 a0, .int .u8 a1, .slice a2 len cap] w fun e w' => e = .returned (.bool true) ∧ Below w.heap.size w w' := by
  have HH : Hid (∀ k, k < len → ∃ b off, a2 = some ⟨b, off, none⟩ ∧ b < w.heap.size ∧ w.cell? ⟨b, off + k, none⟩ = some (.int .u8 (zs[k]?.getD 0)) ∧ 0 ≤ zs[k]?.getD 0 ∧ zs[k]?.getD 0 ≤ 255) := H
  clear H
  obtain ⟨i0, hi, hzz0, hzz1, hzz2⟩ := info_parts info5
  have t0 : ∀ w, (Instr.index 9 (.string ⟨#[43, 45, 32, 92]⟩) (.int .i64 0)).run Ybaf.prog w = .ok (.int .u8 43) w := fun _ => by kernel_rfl
  have t1 : ∀ w, (Instr.index 9 (.string ⟨#[43, 45, 32, 92]⟩) (.int .i64 1)).run Ybaf.prog w = .ok (.int .u8 45) w := fun _ => by kernel_rfl
  have t2 : ∀ w, (Instr.index 9 (.string ⟨#[43, 45, 32, 92]⟩) (.int .i64 2)).run Ybaf.prog w = .ok (.int .u8 32) w := fun _ => by kernel_rfl
  have t3 : ∀ w, (Instr.index 9 (.string ⟨#[43, 45, 32, 92]⟩) (.int .i64 3)).run Ybaf.prog w = .ok (.int .u8 92) w := fun _ => by kernel_rfl
  go_enter Ybaf.func3, Ybaf.ntmps3
  go_wp2
  go_loopw [7, 8, 11, 12, 14] (fun smo smn sms wv i wr => ∃ (k : Nat) (mo mn ms : Int) (L : List Int), k ≤ len ∧ i = .int .i64 k ∧ smo = .int .i64 mo ∧ smn = .int .i64 mn ∧ sms = .int .i64 ms ∧ Mid w ms mo mn L wv L wr ∧ 0 ≤ mo ∧ mo ≤ 15 ∧ 0 ≤ mn ∧ mn ≤ 15 ∧ L.length ≤ 2 * k) (fun _ _ _ _ i _ => len - (intOf i).toNat)
  case atStart => exact ⟨0, a0 % 16, a1 % 16, 4, [], Nat.zero_le _, rfl, rfl, rfl, rfl, start_mid w (a0 % 16) (a1 % 16), by omega, by omega, by omega, by omega, Nat.le_refl _⟩
  case round =>
    obtain ⟨k, mo, mn, ms, L, hk, rfl, rfl, rfl, rfl, hM, hmo0, hmo1, hmn0, hmn1, hLk⟩ := hrel
    by_cases hlt : k < len
    · obtain ⟨b, off, ha, hb, hc, hz0, hz1⟩ := HH.out k hlt
      subst ha
      have hc1 : wr.cell? ⟨b, off + k, none⟩ = some (.int .u8 (zs[k]?.getD 0)) := (hM.belowW.cell (by exact hb)).trans hc
      clear hc
      by_cases hz : zs[k]?.getD 0 % 4 = 0
      · by_cases hp : 0 < mn
        · by_cases hcl : mo = 0
          · subst hcl
            by_cases hcm : mn = 1
            · subst hcm
              go_wp2_with fail
              obtain ⟨lv, hA, hw, hd, hnx⟩ := hM.alloc (.cells #[.int .u8 43, .int .u8 120] 5)
              refine (line_add wr.heap.size hA (by omega) (by simp) (by omega) (by omega)).mono ?_
              rintro e w1 ⟨rfl, hst⟩
              have M1 := Mid.hunk hA hw hd hnx hst
              rw [show (1 : Int) - 1 = 0 from rfl, closeS_yes ⟨rfl, rfl⟩, closeL_yes ⟨rfl, rfl⟩] at M1
              have hw1 := M1.owns
              clear hst hA hw hd hnx hM hc1
              go_wp2_with (at_builtin; refine wpList_append_own_at _ rfl _ _ 22 rfl (w.heap.size + 2) 5 i0 (.int .u8 0) 1 1 Ybaf.underlying22 hi hzz0 hzz1 hzz2 rfl (by decide) _ L.length (L.map (Value.int .u8)) rfl (hw1.alloc _) ⟨w1.heap.size, 0, none⟩ 1 1 [.int .u8 65] rfl rfl (cell_one_new _ _ _) ?c2 ?c3 ?c4 ?c5 ?_)
              case c2 => intro u hu; simp at hu; subst hu; rfl
              case c3 => (try simp); unfold maxLen; omega
              case c4 => (try simp); omega
              case c5 => have := M1.size; simp; omega
              intro v' w2 hown' hgrow _ hat
              have M2 := Mid.app M1 hgrow hat hown'
              clear M1 hw1 hgrow hat hown'
              have hw2 := M2.owns
              go_wp2_with (at_builtin; refine wpList_append_own_at _ rfl _ _ 22 rfl (w.heap.size + 2) 5 i0 (.int .u8 0) 1 1 Ybaf.underlying22 hi hzz0 hzz1 hzz2 rfl (by decide) _ (L ++ [65]).length ((L ++ [65]).map (Value.int .u8)) rfl (hw2.alloc _) ⟨w2.heap.size, 0, none⟩ 1 1 [.int .u8 69] rfl rfl (cell_one_new _ _ _) ?d2 ?d3 ?d4 ?d5 ?_)
              case d2 => intro u hu; simp at hu; subst hu; rfl
              case d3 => (try simp); unfold maxLen; omega
              case d4 => (try simp); omega
              case d5 => have := M2.size; simp; omega
              intro v'' w3 hown'' hgrow2 _ hat2
              have M3 := Mid.app (c := 69) M2 hgrow2 hat2 (by simpa using hown'')
              clear M2 hw2 hgrow2 hat2 hown''
              go_wp2
              go_roundw
              case rel => exact ⟨k + 1, 0, 0, 3, L ++ [65] ++ [69], by omega, by go_num, rfl, rfl, rfl, M3, by omega, by omega, by omega, by omega, by simp; omega⟩
              case measure => simp [intOf]; omega
            · have hcm' : (mn - 1 == 0) = false := by simp; omega
              go_wp2_with fail
              obtain ⟨lv, hA, hw, hd, hnx⟩ := hM.alloc (.cells #[.int .u8 43, .int .u8 120] 5)
              refine (line_add wr.heap.size hA (by omega) (by simp) hp hmn1).mono ?_
              rintro e w1 ⟨rfl, hst⟩
              have M1 := Mid.hunk hA hw hd hnx hst
              rw [closeS_no (by omega), closeL_no (by omega)] at M1
              have hw1 := M1.owns
              clear hst hA hw hd hnx hM hc1
              go_wp2_with (at_builtin; refine wpList_append_own_at _ rfl _ _ 22 rfl (w.heap.size + 2) 5 i0 (.int .u8 0) 1 1 Ybaf.underlying22 hi hzz0 hzz1 hzz2 rfl (by decide) _ L.length (L.map (Value.int .u8)) rfl (hw1.alloc _) ⟨w1.heap.size, 0, none⟩ 1 1 [.int .u8 65] rfl rfl (cell_one_new _ _ _) ?c2 ?c3 ?c4 ?c5 ?_)
              case c2 => intro u hu; simp at hu; subst hu; rfl
              case c3 => (try simp); unfold maxLen; omega
              case c4 => (try simp); omega
              case c5 => have := M1.size; simp; omega
              intro v' w2 hown' hgrow _ hat
              have M2 := Mid.app M1 hgrow hat hown'
              clear M1 hw1 hgrow hat hown'
              go_wp2
              go_roundw
              case rel => exact ⟨k + 1, 0, mn - 1, ms, L ++ [65], by omega, by go_num, rfl, rfl, rfl, M2, by omega, by omega, by omega, by omega, by simp; omega⟩
              case measure => simp [intOf]; omega
          · have hcl' : (mo == 0) = false := by simpa using hcl
            go_wp2_with fail
            obtain ⟨lv, hA, hw, hd, hnx⟩ := hM.alloc (.cells #[.int .u8 43, .int .u8 120] 5)
            refine (line_add wr.heap.size hA (by omega) (by simp) hp hmn1).mono ?_
            rintro e w1 ⟨rfl, hst⟩
            have M1 := Mid.hunk hA hw hd hnx hst
            rw [closeS_no (by omega), closeL_no (by omega)] at M1
            have hw1 := M1.owns
            clear hst hA hw hd hnx hM hc1
            go_wp2_with (at_builtin; refine wpList_append_own_at _ rfl _ _ 22 rfl (w.heap.size + 2) 5 i0 (.int .u8 0) 1 1 Ybaf.underlying22 hi hzz0 hzz1 hzz2 rfl (by decide) _ L.length (L.map (Value.int .u8)) rfl (hw1.alloc _) ⟨w1.heap.size, 0, none⟩ 1 1 [.int .u8 65] rfl rfl (cell_one_new _ _ _) ?c2 ?c3 ?c4 ?c5 ?_)
            case c2 => intro u hu; simp at hu; subst hu; rfl
            case c3 => (try simp); unfold maxLen; omega
            case c4 => (try simp); omega
            case c5 => have := M1.size; simp; omega
            intro v' w2 hown' hgrow _ hat
            have M2 := Mid.app M1 hgrow hat hown'
            clear M1 hw1 hgrow hat hown'
            go_wp2
            go_roundw
            case rel => exact ⟨k + 1, mo, mn - 1, ms, L ++ [65], by omega, by go_num, rfl, rfl, rfl, M2, by omega, by omega, by omega, by omega, by simp; omega⟩
            case measure => simp [intOf]; omega
        · have hp' : mn ≤ 0 := by omega
          go_wp2_with fail
          have hM1 := hM.alloc (.cells #[.int .u8 43, .int .u8 120] 5)
          obtain ⟨lv, hA, _, _, hnx⟩ := hM1
          refine (err_add F wr.heap.size (by rw [hnx.tape]; exact hF) hA.P (by have := hA.hbase; omega) (by simp) (by simp) hp').mono ?_
          rintro e w1 ⟨p, rfl, hbl⟩
          have M1 := (hM.alloc (.cells #[.int .u8 43, .int .u8 120] 5)).below hbl
          clear hM hA hnx hbl hc1
          go_wp2
          go_roundw
          case rel => exact ⟨k + 1, mo, mn, ms, L, by omega, by go_num, rfl, rfl, rfl, M1, by omega, by omega, by omega, by omega, by omega⟩
          case measure => simp [intOf]; omega
      · by_cases hz1' : zs[k]?.getD 0 % 4 = 1
        · by_cases hp : 0 < mo
          · by_cases hcl : mo = 1
            · subst hcl
              by_cases hcm : mn = 0
              · subst hcm
                go_wp2_with fail
                obtain ⟨lv, hA, hw, hd, hnx⟩ := hM.alloc (.cells #[.int .u8 45, .int .u8 120] 5)
                refine (line_remove wr.heap.size hA (by omega) (by simp) (by omega) (by omega)).mono ?_
                rintro e w1 ⟨rfl, hst⟩
                have M1 := Mid.hunk hA hw hd hnx hst
                rw [show (1 : Int) - 1 = 0 from rfl, closeS_yes ⟨rfl, rfl⟩, closeL_yes ⟨rfl, rfl⟩] at M1
                have hw1 := M1.owns
                clear hst hA hw hd hnx hM hc1
                go_wp2_with (at_builtin; refine wpList_append_own_at _ rfl _ _ 22 rfl (w.heap.size + 2) 5 i0 (.int .u8 0) 1 1 Ybaf.underlying22 hi hzz0 hzz1 hzz2 rfl (by decide) _ L.length (L.map (Value.int .u8)) rfl (hw1.alloc _) ⟨w1.heap.size, 0, none⟩ 1 1 [.int .u8 82] rfl rfl (cell_one_new _ _ _) ?c2 ?c3 ?c4 ?c5 ?_)
                case c2 => intro u hu; simp at hu; subst hu; rfl
                case c3 => (try simp); unfold maxLen; omega
                case c4 => (try simp); omega
                case c5 => have := M1.size; simp; omega
                intro v' w2 hown' hgrow _ hat
                have M2 := Mid.app M1 hgrow hat hown'
                clear M1 hw1 hgrow hat hown'
                have hw2 := M2.owns
                go_wp2_with (at_builtin; refine wpList_append_own_at _ rfl _ _ 22 rfl (w.heap.size + 2) 5 i0 (.int .u8 0) 1 1 Ybaf.underlying22 hi hzz0 hzz1 hzz2 rfl (by decide) _ (L ++ [82]).length ((L ++ [82]).map (Value.int .u8)) rfl (hw2.alloc _) ⟨w2.heap.size, 0, none⟩ 1 1 [.int .u8 69] rfl rfl (cell_one_new _ _ _) ?d2 ?d3 ?d4 ?d5 ?_)
                case d2 => intro u hu; simp at hu; subst hu; rfl
                case d3 => (try simp); unfold maxLen; omega
                case d4 => (try simp); omega
                case d5 => have := M2.size; simp; omega
                intro v'' w3 hown'' hgrow2 _ hat2
                have M3 := Mid.app (c := 69) M2 hgrow2 hat2 (by simpa using hown'')
                clear M2 hw2 hgrow2 hat2 hown''
                go_wp2
                go_roundw
                case rel => exact ⟨k + 1, 0, 0, 3, L ++ [82] ++ [69], by omega, by go_num, rfl, rfl, rfl, M3, by omega, by omega, by omega, by omega, by simp; omega⟩
                case measure => simp [intOf]; omega
              · have hcm' : (mn == 0) = false := by simpa using hcm
                go_wp2_with fail
                obtain ⟨lv, hA, hw, hd, hnx⟩ := hM.alloc (.cells #[.int .u8 45, .int .u8 120] 5)
                refine (line_remove wr.heap.size hA (by omega) (by simp) (by omega) (by omega)).mono ?_
                rintro e w1 ⟨rfl, hst⟩
                have M1 := Mid.hunk hA hw hd hnx hst
                rw [closeS_no (by omega), closeL_no (by omega)] at M1
                have hw1 := M1.owns
                clear hst hA hw hd hnx hM hc1
                go_wp2_with (at_builtin; refine wpList_append_own_at _ rfl _ _ 22 rfl (w.heap.size + 2) 5 i0 (.int .u8 0) 1 1 Ybaf.underlying22 hi hzz0 hzz1 hzz2 rfl (by decide) _ L.length (L.map (Value.int .u8)) rfl (hw1.alloc _) ⟨w1.heap.size, 0, none⟩ 1 1 [.int .u8 82] rfl rfl (cell_one_new _ _ _) ?c2 ?c3 ?c4 ?c5 ?_)
                case c2 => intro u hu; simp at hu; subst hu; rfl
                case c3 => (try simp); unfold maxLen; omega
                case c4 => (try simp); omega
                case c5 => have := M1.size; simp; omega
                intro v' w2 hown' hgrow _ hat
                have M2 := Mid.app M1 hgrow hat hown'
                clear M1 hw1 hgrow hat hown'
                go_wp2
                go_roundw
                case rel => exact ⟨k + 1, 0, mn, ms, L ++ [82], by omega, by go_num, rfl, rfl, rfl, M2, by omega, by omega, by omega, by omega, by simp; omega⟩
                case measure => simp [intOf]; omega
            · have hcl' : (mo - 1 == 0) = false := by simp; omega
              go_wp2_with fail
              obtain ⟨lv, hA, hw, hd, hnx⟩ := hM.alloc (.cells #[.int .u8 45, .int .u8 120] 5)
              refine (line_remove wr.heap.size hA (by omega) (by simp) hp hmo1).mono ?_
              rintro e w1 ⟨rfl, hst⟩
              have M1 := Mid.hunk hA hw hd hnx hst
              rw [closeS_no (by omega), closeL_no (by omega)] at M1
              have hw1 := M1.owns
              clear hst hA hw hd hnx hM hc1
              go_wp2_with (at_builtin; refine wpList_append_own_at _ rfl _ _ 22 rfl (w.heap.size + 2) 5 i0 (.int .u8 0) 1 1 Ybaf.underlying22 hi hzz0 hzz1 hzz2 rfl (by decide) _ L.length (L.map (Value.int .u8)) rfl (hw1.alloc _) ⟨w1.heap.size, 0, none⟩ 1 1 [.int .u8 82] rfl rfl (cell_one_new _ _ _) ?c2 ?c3 ?c4 ?c5 ?_)
              case c2 => intro u hu; simp at hu; subst hu; rfl
              case c3 => (try simp); unfold maxLen; omega
              case c4 => (try simp); omega
              case c5 => have := M1.size; simp; omega
              intro v' w2 hown' hgrow _ hat
              have M2 := Mid.app M1 hgrow hat hown'
              clear M1 hw1 hgrow hat hown'
              go_wp2
              go_roundw
              case rel => exact ⟨k + 1, mo - 1, mn, ms, L ++ [82], by omega, by go_num, rfl, rfl, rfl, M2, by omega, by omega, by omega, by omega, by simp; omega⟩
              case measure => simp [intOf]; omega
          · have hp' : mo ≤ 0 := by omega
            go_wp2_with fail
            have hM1 := hM.alloc (.cells #[.int .u8 45, .int .u8 120] 5)
            obtain ⟨lv, hA, _, _, hnx⟩ := hM1
            refine (err_remove F wr.heap.size (by rw [hnx.tape]; exact hF) hA.P (by have := hA.hbase; omega) (by simp) (by simp) hp').mono ?_
            rintro e w1 ⟨p, rfl, hbl⟩
            have M1 := (hM.alloc (.cells #[.int .u8 45, .int .u8 120] 5)).below hbl
            clear hM hA hnx hbl hc1
            go_wp2
            go_roundw
            case rel => exact ⟨k + 1, mo, mn, ms, L, by omega, by go_num, rfl, rfl, rfl, M1, by omega, by omega, by omega, by omega, by omega⟩
            case measure => simp [intOf]; omega
        · by_cases hz2' : zs[k]?.getD 0 % 4 = 2
          · by_cases hp : 0 < mo
            · by_cases hq : 0 < mn
              · by_cases hcl : mo = 1
                · subst hcl
                  by_cases hcm : mn = 1
                  · subst hcm
                    go_wp2_with fail
                    obtain ⟨lv, hA, hw, hd, hnx⟩ := hM.alloc (.cells #[.int .u8 32, .int .u8 120] 5)
                    refine (line_keep wr.heap.size hA (by omega) (by simp) (by omega) (by omega) (by omega) (by omega)).mono ?_
                    rintro e w1 ⟨rfl, hst⟩
                    have M1 := Mid.hunk hA hw hd hnx hst
                    rw [show (1 : Int) - 1 = 0 from rfl, closeS_yes ⟨rfl, rfl⟩, closeL_yes ⟨rfl, rfl⟩] at M1
                    have hw1 := M1.owns
                    clear hst hA hw hd hnx hM hc1
                    go_wp2_with (at_builtin; refine wpList_append_own_at _ rfl _ _ 22 rfl (w.heap.size + 2) 5 i0 (.int .u8 0) 1 1 Ybaf.underlying22 hi hzz0 hzz1 hzz2 rfl (by decide) _ L.length (L.map (Value.int .u8)) rfl (hw1.alloc _) ⟨w1.heap.size, 0, none⟩ 1 1 [.int .u8 75] rfl rfl (cell_one_new _ _ _) ?c2 ?c3 ?c4 ?c5 ?_)
                    case c2 => intro u hu; simp at hu; subst hu; rfl
                    case c3 => (try simp); unfold maxLen; omega
                    case c4 => (try simp); omega
                    case c5 => have := M1.size; simp; omega
                    intro v' w2 hown' hgrow _ hat
                    have M2 := Mid.app M1 hgrow hat hown'
                    clear M1 hw1 hgrow hat hown'
                    have hw2 := M2.owns
                    go_wp2_with (at_builtin; refine wpList_append_own_at _ rfl _ _ 22 rfl (w.heap.size + 2) 5 i0 (.int .u8 0) 1 1 Ybaf.underlying22 hi hzz0 hzz1 hzz2 rfl (by decide) _ (L ++ [75]).length ((L ++ [75]).map (Value.int .u8)) rfl (hw2.alloc _) ⟨w2.heap.size, 0, none⟩ 1 1 [.int .u8 69] rfl rfl (cell_one_new _ _ _) ?d2 ?d3 ?d4 ?d5 ?_)
                    case d2 => intro u hu; simp at hu; subst hu; rfl
                    case d3 => (try simp); unfold maxLen; omega
                    case d4 => (try simp); omega
                    case d5 => have := M2.size; simp; omega
                    intro v'' w3 hown'' hgrow2 _ hat2
                    have M3 := Mid.app (c := 69) M2 hgrow2 hat2 (by simpa using hown'')
                    clear M2 hw2 hgrow2 hat2 hown''
                    go_wp2
                    go_roundw
                    case rel => exact ⟨k + 1, 0, 0, 3, L ++ [75] ++ [69], by omega, by go_num, rfl, rfl, rfl, M3, by omega, by omega, by omega, by omega, by simp; omega⟩
                    case measure => simp [intOf]; omega
                  · have hcm' : (mn - 1 == 0) = false := by simp; omega
                    go_wp2_with fail
                    obtain ⟨lv, hA, hw, hd, hnx⟩ := hM.alloc (.cells #[.int .u8 32, .int .u8 120] 5)
                    refine (line_keep wr.heap.size hA (by omega) (by simp) (by omega) hq (by omega) hmn1).mono ?_
                    rintro e w1 ⟨rfl, hst⟩
                    have M1 := Mid.hunk hA hw hd hnx hst
                    rw [closeS_no (by omega), closeL_no (by omega)] at M1
                    have hw1 := M1.owns
                    clear hst hA hw hd hnx hM hc1
                    go_wp2_with (at_builtin; refine wpList_append_own_at _ rfl _ _ 22 rfl (w.heap.size + 2) 5 i0 (.int .u8 0) 1 1 Ybaf.underlying22 hi hzz0 hzz1 hzz2 rfl (by decide) _ L.length (L.map (Value.int .u8)) rfl (hw1.alloc _) ⟨w1.heap.size, 0, none⟩ 1 1 [.int .u8 75] rfl rfl (cell_one_new _ _ _) ?c2 ?c3 ?c4 ?c5 ?_)
                    case c2 => intro u hu; simp at hu; subst hu; rfl
                    case c3 => (try simp); unfold maxLen; omega
                    case c4 => (try simp); omega
                    case c5 => have := M1.size; simp; omega
                    intro v' w2 hown' hgrow _ hat
                    have M2 := Mid.app M1 hgrow hat hown'
                    clear M1 hw1 hgrow hat hown'
                    go_wp2
                    go_roundw
                    case rel => exact ⟨k + 1, 0, mn - 1, ms, L ++ [75], by omega, by go_num, rfl, rfl, rfl, M2, by omega, by omega, by omega, by omega, by simp; omega⟩
                    case measure => simp [intOf]; omega
                · have hcl' : (mo - 1 == 0) = false := by simp; omega
                  go_wp2_with fail
                  obtain ⟨lv, hA, hw, hd, hnx⟩ := hM.alloc (.cells #[.int .u8 32, .int .u8 120] 5)
                  refine (line_keep wr.heap.size hA (by omega) (by simp) hp hq hmo1 hmn1).mono ?_
                  rintro e w1 ⟨rfl, hst⟩
                  have M1 := Mid.hunk hA hw hd hnx hst
                  rw [closeS_no (by omega), closeL_no (by omega)] at M1
                  have hw1 := M1.owns
                  clear hst hA hw hd hnx hM hc1
                  go_wp2_with (at_builtin; refine wpList_append_own_at _ rfl _ _ 22 rfl (w.heap.size + 2) 5 i0 (.int .u8 0) 1 1 Ybaf.underlying22 hi hzz0 hzz1 hzz2 rfl (by decide) _ L.length (L.map (Value.int .u8)) rfl (hw1.alloc _) ⟨w1.heap.size, 0, none⟩ 1 1 [.int .u8 75] rfl rfl (cell_one_new _ _ _) ?c2 ?c3 ?c4 ?c5 ?_)
                  case c2 => intro u hu; simp at hu; subst hu; rfl
                  case c3 => (try simp); unfold maxLen; omega
                  case c4 => (try simp); omega
                  case c5 => have := M1.size; simp; omega
                  intro v' w2 hown' hgrow _ hat
                  have M2 := Mid.app M1 hgrow hat hown'
                  clear M1 hw1 hgrow hat hown'
                  go_wp2
                  go_roundw
                  case rel => exact ⟨k + 1, mo - 1, mn - 1, ms, L ++ [75], by omega, by go_num, rfl, rfl, rfl, M2, by omega, by omega, by omega, by omega, by simp; omega⟩
                  case measure => simp [intOf]; omega
              · have hq' : mn ≤ 0 := by omega
                go_wp2_with fail
                have hM1 := hM.alloc (.cells #[.int .u8 32, .int .u8 120] 5)
                obtain ⟨lv, hA, _, _, hnx⟩ := hM1
                refine (err_keep_new F wr.heap.size (by rw [hnx.tape]; exact hF) hA.P (by have := hA.hbase; omega) (by simp) (by simp) hp hq').mono ?_
                rintro e w1 ⟨p, rfl, hbl⟩
                have M1 := (hM.alloc (.cells #[.int .u8 32, .int .u8 120] 5)).below hbl
                clear hM hA hnx hbl hc1
                go_wp2
                go_roundw
                case rel => exact ⟨k + 1, mo, mn, ms, L, by omega, by go_num, rfl, rfl, rfl, M1, by omega, by omega, by omega, by omega, by omega⟩
                case measure => simp [intOf]; omega
            · have hp' : mo ≤ 0 := by omega
              go_wp2_with fail
              have hM1 := hM.alloc (.cells #[.int .u8 32, .int .u8 120] 5)
              obtain ⟨lv, hA, _, _, hnx⟩ := hM1
              refine (err_keep_old F wr.heap.size (by rw [hnx.tape]; exact hF) hA.P (by have := hA.hbase; omega) (by simp) (by simp) hp').mono ?_
              rintro e w1 ⟨p, rfl, hbl⟩
              have M1 := (hM.alloc (.cells #[.int .u8 32, .int .u8 120] 5)).below hbl
              clear hM hA hnx hbl hc1
              go_wp2
              go_roundw
              case rel => exact ⟨k + 1, mo, mn, ms, L, by omega, by go_num, rfl, rfl, rfl, M1, by omega, by omega, by omega, by omega, by omega⟩
              case measure => simp [intOf]; omega
          · have hz3' : zs[k]?.getD 0 % 4 = 3 := by omega
            go_wp2_with fail
            refine (line_skip _ wr.heap.size _ (by simp)).mono ?_
            rintro e w1 ⟨rfl, hbl⟩
            have M1 := (hM.alloc (.cells #[.int .u8 92, .int .u8 120] 5)).below hbl
            clear hM hbl hc1
            go_wp2
            go_roundw
            case rel => exact ⟨k + 1, mo, mn, ms, L, by omega, by go_num, rfl, rfl, rfl, M1, by omega, by omega, by omega, by omega, by omega⟩
            case measure => simp [intOf]; omega
    · obtain ⟨lv, hA, hw, hd, hnx⟩ := hM
      obtain ⟨⟨p0, p1, p4, p5, pz⟩, hlog, hzero, hown, hpv, hpb, hvb, hbase⟩ := hA
      clear p0 pz hzero hd t0 t1 t2 t3
      go_wp2_with (go_at_call 5; refine (eqlog_same _ (w.heap.size + 2) _ _ L hown hw (by omega)).mono ?_; rintro e w1 ⟨rfl, n, rfl⟩)
      go_ret
      exact ⟨rfl, hnx.trans ⟨rfl, rfl, rfl, Nat.le_refl _, fun _ _ => rfl⟩⟩

set_option maxRecDepth 100000 in
theorem lines_long (a0 a1 : Int) (a2 : Option Addr) (len cap : Nat) (w : World) (h : 1024 < len) :
    Calls Ybaf.prog 3 #[.int .u8 a0, .int .u8 a1, .slice a2 len cap] w fun e w' => e = .returned (.bool true) ∧ Below w.heap.size w w' := by
  have h' : (1024 : Int) < (len : Int) := by omega
  go_enter Ybaf.func3, Ybaf.ntmps3
  go_wp2
  go_ret
  exact ⟨rfl, Below.refl _ _⟩
end Go.Proofs.YbulkbkriFmt
