import Derived.Test.YbulkbkpeProg
import Derived.WalkKit
import Derived.WalkSpells
import Derived.WalkLawsBesides
import Derived.Laws.EntriesVeiled
import Derived.Deep.QuietTactic
import Derived.BigQuiet
import Derived.Maps.OwnSet
import Derived.LaidEql
namespace Go.Proofs.Ybulkbkpe
open Go.RowKit

theorem neq_nf (w : World) : (binOp .neq 28 .nilFunc .nilFunc).run Yba.prog w = .ok (.bool false) w := by kernel_rfl
theorem eql_fn (fn : Fn) (x y : Array Value) (w : World) : (binOp .eql 28 (.func fn x y) .nilFunc).run Yba.prog w = .ok (.bool false) w := by kernel_rfl
theorem eql_m48 (b : Nat) (w : World) : (binOp .eql 48 (.map (some b)) (.map none)).run Yba.prog w = .ok (.bool false) w := by kernel_rfl
theorem eql_m50 (b : Nat) (w : World) : (binOp .eql 50 (.map (some b)) (.map none)).run Yba.prog w = .ok (.bool false) w := by kernel_rfl
theorem neq_s49 (w : World) : (binOp .neq 49 (.slice none 0 0) (.slice none 0 0)).run Yba.prog w = .ok (.bool false) w := by kernel_rfl
theorem len48 (w : World) (b : Nat) (ty : TypeId) (h : w.heap[b]? = some (.map #[] 0)) : (Builtin.len_ #[48] ty #[.map (some b)]).run Yba.prog w = .ok (.int .i64 0) w := by
  simp [Builtin.len_, run_underlying Yba.underlying48, MapKept.run_getObj_map h, goInt, Result.andThen]
theorem len50 (w : World) (b : Nat) (ty : TypeId) (h : w.heap[b]? = some (.map #[] 0)) : (Builtin.len_ #[50] ty #[.map (some b)]).run Yba.prog w = .ok (.int .i64 0) w := by
  simp [Builtin.len_, run_underlying Yba.underlying50, MapKept.run_getObj_map h, goInt, Result.andThen]
/-- Two maps made behind n blocks, one block behind them. -/
theorem heap_m1 (w : World) (o2 o3 : Obj) : (((w.alloc (.map #[] 0)).alloc o2).alloc o3).heap[w.heap.size]? = some (.map #[] 0) := by
  rw [Below.heap_alloc _ _ _ (by simp; omega), Below.heap_alloc _ _ _ (by simp)]
  exact heap_alloc_new w _
theorem heap_m2 (w : World) (o3 : Obj) : ((w.alloc (.map #[] 0)).alloc o3).heap[w.heap.size]? = some (.map #[] 0) := by
  rw [Below.heap_alloc _ _ _ (by simp)]
  exact heap_alloc_new w _

theorem run_neq_iface_ptr_same {P : Program} (w : World) {ti tp te : TypeId} {ms : Array (String × TypeId)} {i j : TypeInfo} (a : Addr)
    (hi : P.underlying ti = some (.interface ms)) (hp : P.underlying tp = some (.pointer te)) (hinfo : P.info? tp = some i) (hcomp : i.comparable = true) (hte : P.info? te = some j) :
    (binOp .neq ti (.iface tp (.pointer (some a))) (.iface tp (.pointer (some a)))).run P w = .ok (.bool false) w := by
  simp only [binOp]
  simp [Op.equal, Op.maxDepth, run_equalIn_iface_ptr_same w 9998 a hi hp hinfo hcomp hte]
theorem comp54 : ∃ i, Yba.prog.info? 54 = some i ∧ i.comparable = true := by
  have h : (Yba.prog.info? 54).map (·.comparable) = some true := by kernel_rfl
  obtain ⟨i, hi, hb⟩ := Option.map_eq_some_iff.1 h
  exact ⟨i, hi, hb⟩
theorem comp24 : ∃ i, Yba.prog.info? 24 = some i ∧ i.comparable = true := by
  have h : (Yba.prog.info? 24).map (·.comparable) = some true := by kernel_rfl
  obtain ⟨i, hi, hb⟩ := Option.map_eq_some_iff.1 h
  exact ⟨i, hi, hb⟩
theorem info39 : ∃ i, Yba.prog.info? 39 = some i := by
  have h : (Yba.prog.info? 39).map (fun _ => true) = some true := by kernel_rfl
  obtain ⟨i, hi, _⟩ := Option.map_eq_some_iff.1 h
  exact ⟨i, hi⟩
theorem info27 : ∃ i, Yba.prog.info? 27 = some i := by
  have h : (Yba.prog.info? 27).map (fun _ => true) = some true := by kernel_rfl
  obtain ⟨i, hi, _⟩ := Option.map_eq_some_iff.1 h
  exact ⟨i, hi⟩
theorem neq_locker (a : Addr) (w : World) : (binOp .neq 41 (.iface 54 (.pointer (some a))) (.iface 54 (.pointer (some a)))).run Yba.prog w = .ok (.bool false) w := by
  obtain ⟨i, hi, hc⟩ := comp54
  obtain ⟨j, hj⟩ := info39
  exact run_neq_iface_ptr_same w a Yba.underlying41 Yba.underlying54 hi hc hj
theorem neq_writer (a : Addr) (w : World) : (binOp .neq 23 (.iface 24 (.pointer (some a))) (.iface 24 (.pointer (some a)))).run Yba.prog w = .ok (.bool false) w := by
  obtain ⟨i, hi, hc⟩ := comp24
  obtain ⟨j, hj⟩ := info27
  exact run_neq_iface_ptr_same w a Yba.underlying23 Yba.underlying24 hi hc hj

theorem Grown.drewN {W w' : World} (h : Grown W w') (n : Nat) : Grown W (w'.drewN n) := h

set_option maxRecDepth 100000 in
set_option maxHeartbeats 1000000 in
theorem fields_ff (a0 : Bool) (a1 : Int) (a2 : ByteArray) (w : World) :
    Calls Yba.prog 3 #[.bool a0, .int .i64 a1, .string a2, .bool false, .bool false] w fun e w' => e = .returned (.bool true) ∧ Grown w w' := by
  have hmm := @run_makeMap Yba.prog
  have k1 := neq_nf
  have k2 := eql_m48
  have k3 := eql_m50
  have k4 := neq_s49
  have k5 : ∀ (o o2 o3 : Obj) (ty : TypeId), (Builtin.len_ #[48] ty #[.map (some (w.heap.size + 1))]).run Yba.prog ((((w.alloc o).alloc (.map #[] 0)).alloc o2).alloc o3) = .ok (.int .i64 0) ((((w.alloc o).alloc (.map #[] 0)).alloc o2).alloc o3) :=
    fun o o2 o3 ty => len48 _ _ ty (by have := heap_m1 (w.alloc o) o2 o3; simpa using this)
  have k6 : ∀ (o o2 o3 : Obj) (ty : TypeId), (Builtin.len_ #[50] ty #[.map (some (w.heap.size + 1 + 1))]).run Yba.prog ((((w.alloc o).alloc o2).alloc (.map #[] 0)).alloc o3) = .ok (.int .i64 0) ((((w.alloc o).alloc o2).alloc (.map #[] 0)).alloc o3) :=
    fun o o2 o3 ty => len50 _ _ ty (by have := heap_m2 ((w.alloc o).alloc o2) o3; simpa using this)
  go_enter Yba.func3, Yba.ntmps3
  go_wp2
  clear k1 k2 k3 k5 k6 hmm
  have k7 := neq_locker
  go_quiet (fail)
  go_wp2
  go_ret
  exact ⟨rfl, Grown.drewN (Grown.alloc (Grown.allocMap (Grown.allocMap (Grown.alloc (Grown.refl _) _ _) _ _) _ _) _ _) _⟩

set_option maxRecDepth 100000 in
set_option maxHeartbeats 1000000 in
theorem fields_tf (a0 : Bool) (a1 : Int) (a2 : ByteArray) (w : World) :
    Calls Yba.prog 3 #[.bool a0, .int .i64 a1, .string a2, .bool true, .bool false] w fun e w' => e = .returned (.bool true) ∧ Grown w w' := by
  have hmm := @run_makeMap Yba.prog
  have k0 := neq_writer
  have k1 := neq_nf
  have k2 := eql_m48
  have k3 := eql_m50
  have k4 := neq_s49
  have k5 : ∀ (p o o2 o3 : Obj) (ty : TypeId), (Builtin.len_ #[48] ty #[.map (some (w.heap.size + 1 + 1))]).run Yba.prog (((((w.alloc p).alloc o).alloc (.map #[] 0)).alloc o2).alloc o3) = .ok (.int .i64 0) (((((w.alloc p).alloc o).alloc (.map #[] 0)).alloc o2).alloc o3) :=
    fun p o o2 o3 ty => len48 _ _ ty (by have := heap_m1 ((w.alloc p).alloc o) o2 o3; simpa using this)
  have k6 : ∀ (p o o2 o3 : Obj) (ty : TypeId), (Builtin.len_ #[50] ty #[.map (some (w.heap.size + 1 + 1 + 1))]).run Yba.prog (((((w.alloc p).alloc o).alloc o2).alloc (.map #[] 0)).alloc o3) = .ok (.int .i64 0) (((((w.alloc p).alloc o).alloc o2).alloc (.map #[] 0)).alloc o3) :=
    fun p o o2 o3 ty => len50 _ _ ty (by have := heap_m2 (((w.alloc p).alloc o).alloc o2) o3; simpa using this)
  go_enter Yba.func3, Yba.ntmps3
  go_wp2
  clear k0 k1 k2 k3 k5 k6 hmm
  have k7 := neq_locker
  go_quiet (fail)
  go_wp2
  go_ret
  exact ⟨rfl, Grown.drewN (Grown.alloc (Grown.allocMap (Grown.allocMap (Grown.alloc (Grown.alloc (Grown.refl _) _ _) _ _) _ _) _ _) _ _) _⟩

set_option maxRecDepth 100000 in
set_option maxHeartbeats 1000000 in
theorem fields_ft (a0 : Bool) (a1 : Int) (a2 : ByteArray) (w : World) :
    Calls Yba.prog 3 #[.bool a0, .int .i64 a1, .string a2, .bool false, .bool true] w fun e w' => e = .returned (.bool true) ∧ Grown w w' := by
  have hmm := @run_makeMap Yba.prog
  have k1 := eql_fn
  have k2 := eql_m48
  have k3 := eql_m50
  have k4 := neq_s49
  have k5 : ∀ (o o2 o3 : Obj) (ty : TypeId), (Builtin.len_ #[48] ty #[.map (some (w.heap.size + 1))]).run Yba.prog ((((w.alloc o).alloc (.map #[] 0)).alloc o2).alloc o3) = .ok (.int .i64 0) ((((w.alloc o).alloc (.map #[] 0)).alloc o2).alloc o3) :=
    fun o o2 o3 ty => len48 _ _ ty (by have := heap_m1 (w.alloc o) o2 o3; simpa using this)
  have k6 : ∀ (o o2 o3 : Obj) (ty : TypeId), (Builtin.len_ #[50] ty #[.map (some (w.heap.size + 1 + 1))]).run Yba.prog ((((w.alloc o).alloc o2).alloc (.map #[] 0)).alloc o3) = .ok (.int .i64 0) ((((w.alloc o).alloc o2).alloc (.map #[] 0)).alloc o3) :=
    fun o o2 o3 ty => len50 _ _ ty (by have := heap_m2 ((w.alloc o).alloc o2) o3; simpa using this)
  go_enter Yba.func3, Yba.ntmps3
  go_wp2
  go_end0
  go_wp2
  clear k1 k2 k3 k5 k6 hmm
  have k7 := neq_locker
  go_quiet (fail)
  go_wp2
  go_ret
  exact ⟨rfl, Grown.drewN (Grown.alloc (Grown.allocMap (Grown.allocMap (Grown.alloc (Grown.refl _) _ _) _ _) _ _) _ _) _⟩

set_option maxRecDepth 100000 in
set_option maxHeartbeats 1000000 in
theorem fields_tt (a0 : Bool) (a1 : Int) (a2 : ByteArray) (w : World) :
    Calls Yba.prog 3 #[.bool a0, .int .i64 a1, .string a2, .bool true, .bool true] w fun e w' => e = .returned (.bool true) ∧ Grown w w' := by
  have hmm := @run_makeMap Yba.prog
  have k0 := neq_writer
  have k1 := eql_fn
  have k2 := eql_m48
  have k3 := eql_m50
  have k4 := neq_s49
  have k5 : ∀ (p o o2 o3 : Obj) (ty : TypeId), (Builtin.len_ #[48] ty #[.map (some (w.heap.size + 1 + 1))]).run Yba.prog (((((w.alloc p).alloc o).alloc (.map #[] 0)).alloc o2).alloc o3) = .ok (.int .i64 0) (((((w.alloc p).alloc o).alloc (.map #[] 0)).alloc o2).alloc o3) :=
    fun p o o2 o3 ty => len48 _ _ ty (by have := heap_m1 ((w.alloc p).alloc o) o2 o3; simpa using this)
  have k6 : ∀ (p o o2 o3 : Obj) (ty : TypeId), (Builtin.len_ #[50] ty #[.map (some (w.heap.size + 1 + 1 + 1))]).run Yba.prog (((((w.alloc p).alloc o).alloc o2).alloc (.map #[] 0)).alloc o3) = .ok (.int .i64 0) (((((w.alloc p).alloc o).alloc o2).alloc (.map #[] 0)).alloc o3) :=
    fun p o o2 o3 ty => len50 _ _ ty (by have := heap_m2 (((w.alloc p).alloc o).alloc o2) o3; simpa using this)
  go_enter Yba.func3, Yba.ntmps3
  go_wp2
  go_end0
  go_wp2
  clear k0 k1 k2 k3 k5 k6 hmm
  have k7 := neq_locker
  go_quiet (fail)
  go_wp2
  go_ret
  exact ⟨rfl, Grown.drewN (Grown.alloc (Grown.allocMap (Grown.allocMap (Grown.alloc (Grown.alloc (Grown.refl _) _ _) _ _) _ _) _ _) _ _) _⟩

theorem fields_any (a0 : Bool) (a1 : Int) (a2 : ByteArray) (a3 a4 : Bool) (w : World) :
    Calls Yba.prog 3 #[.bool a0, .int .i64 a1, .string a2, .bool a3, .bool a4] w fun e w' => e = .returned (.bool true) ∧ Grown w w' := by
  cases a3 <;> cases a4
  · exact fields_ff a0 a1 a2 w
  · exact fields_ft a0 a1 a2 w
  · exact fields_tf a0 a1 a2 w
  · exact fields_tt a0 a1 a2 w
end Go.Proofs.Ybulkbkpe
