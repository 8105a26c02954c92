import Derived.Test.YbulkbkqgFmtFacts
import Derived.WalkKit
import Derived.WalkSpells
import Derived.WalkLawsBesides
import Derived.WideLaws
import Derived.Deep.QuietTactic
import Derived.BigQuiet
namespace Go.Proofs.YbulkbkqgFmt
open Go.RowKit Go.Extern.Stop Go.Stop Go.Extern
attribute [local go_sem] call8 guard fmt0 fmt0r op3_100 op3_100w strict3 ptr31 elem31 isError31 ptr30 elem30 isError30

set_option maxHeartbeats 400000 in
theorem check_low (F : Interp) (n : Int) (w : World) (hF : F.answers w.tape) (hn : n < 1) :
    Calls Ybaf.prog 5 #[.int .i64 n] w fun e w' => e = .returned (.iface 31 (.pointer (some ⟨w.heap.size + 1, 0, none⟩))) ∧ Below w.heap.size w w' := by
  have hF' := answers_open hF
  go_enter Ybaf.func5, Ybaf.ntmps5
  go_wp2
  go_ret
  exact ⟨rfl, ((((Below.refl _ _).alloc (Nat.le_refl _) _).alloc (by simp) _).drew)⟩

set_option maxHeartbeats 400000 in
theorem check_high (F : Interp) (n : Int) (w : World) (hF : F.answers w.tape) (hn : 64 < n) :
    Calls Ybaf.prog 5 #[.int .i64 n] w fun e w' => e = .returned (.iface 31 (.pointer (some ⟨w.heap.size + 1, 0, none⟩))) ∧ Below w.heap.size w w' := by
  have hF' := answers_open hF
  have h1 : ¬ n < 1 := by omega
  go_enter Ybaf.func5, Ybaf.ntmps5
  go_wp2
  go_ret
  exact ⟨rfl, ((((Below.refl _ _).alloc (Nat.le_refl _) _).alloc (by simp) _).drew)⟩

/-- Outside 1..64: an error that is not nil. -/
theorem check_bad (F : Interp) (n : Int) (w : World) (hF : F.answers w.tape) (hn : n < 1 ∨ 64 < n) :
    Calls Ybaf.prog 5 #[.int .i64 n] w fun e w' => e = .returned (.iface 31 (.pointer (some ⟨w.heap.size + 1, 0, none⟩))) ∧ Below w.heap.size w w' := by
  rcases hn with h | h
  · exact check_low F n w hF h
  · exact check_high F n w hF h

set_option maxHeartbeats 400000 in
/-- Inside: nil. -/
theorem check_ok (n : Int) (w : World) (h1 : 1 ≤ n) (h2 : n ≤ 64) :
    Calls Ybaf.prog 5 #[.int .i64 n] w fun e w' => e = .returned .nilIface ∧ w' = w := by
  go_enter Ybaf.func5, Ybaf.ntmps5
  go_wp2
  go_ret
  exact ⟨rfl, rfl⟩

set_option maxHeartbeats 400000 in
theorem want_yes (n : Int) (w : World) (h1 : 1 ≤ n) (h2 : n ≤ 64) : Calls Ybaf.prog 6 #[.int .i64 n] w fun e w' => e = .returned (.bool true) ∧ w' = w := by
  go_enter Ybaf.func6, Ybaf.ntmps6
  go_wp2
  go_ret
  exact ⟨rfl, rfl⟩
set_option maxHeartbeats 400000 in
theorem want_no (n : Int) (w : World) (hn : n < 1 ∨ 64 < n) : Calls Ybaf.prog 6 #[.int .i64 n] w fun e w' => e = .returned (.bool false) ∧ w' = w := by
  rcases hn with h | h
  · have h1 : ¬ 1 ≤ n := by omega
    go_enter Ybaf.func6, Ybaf.ntmps6
    go_wp2
    go_ret
    exact ⟨rfl, rfl⟩
  · have h1 : 1 ≤ n := by omega
    have h2 : ¬ n ≤ 64 := by omega
    go_enter Ybaf.func6, Ybaf.ntmps6
    go_wp2
    go_ret
    exact ⟨rfl, rfl⟩

set_option maxHeartbeats 400000 in
theorem range_ok (n : Int) (w : World) (h1 : 1 ≤ n) (h2 : n ≤ 64) :
    Calls Ybaf.prog 3 #[.int .i64 n] w fun e w' => e = .returned (.bool true) ∧ Below w.heap.size w w' := by
  go_enter Ybaf.func3, Ybaf.ntmps3
  go_wp2_with (go_at_call 5; refine (check_ok n _ h1 h2).mono ?_; rintro e w' ⟨rfl, rfl⟩)
  go_quiet ((go_at_call 6; exact Calls.quiet_of_same (want_yes n _ h1 h2)))
  go_wp2
  go_ret
  exact ⟨rfl, ⟨rfl, rfl, rfl, Nat.le_refl _, fun _ _ => rfl⟩⟩

set_option maxHeartbeats 400000 in
theorem range_bad (F : Interp) (n : Int) (w : World) (hF : F.answers w.tape) (hn : n < 1 ∨ 64 < n) :
    Calls Ybaf.prog 3 #[.int .i64 n] w fun e w' => e = .returned (.bool true) ∧ Below w.heap.size w w' := by
  go_enter Ybaf.func3, Ybaf.ntmps3
  go_wp2_with (go_at_call 5; refine (check_bad F n _ hF hn).mono ?_; rintro e w' ⟨rfl, hb⟩)
  go_quiet ((go_at_call 6; exact Calls.quiet_of_same (want_no n _ hn)))
  go_wp2
  go_ret
  exact ⟨rfl, hb.trans ⟨rfl, rfl, rfl, Nat.le_refl _, fun _ _ => rfl⟩⟩

theorem range_any (F : Interp) (n : Int) (w : World) (hF : F.answers w.tape) :
    Calls Ybaf.prog 3 #[.int .i64 n] w fun e w' => e = .returned (.bool true) ∧ Below w.heap.size w w' := by
  by_cases hn : n < 1 ∨ 64 < n
  · exact range_bad F n w hF hn
  · exact range_ok n w (by omega) (by omega)

set_option maxHeartbeats 400000 in
theorem edges_low_bad (F : Interp) (k : Int) (w : World) (hF : F.answers w.tape) (h0 : 0 ≤ k) (h255 : k ≤ 255) (hn : k % 8 - 3 < 1 ∨ 64 < k % 8 - 3) :
    Calls Ybaf.prog 4 #[.int .u8 k, .bool false] w fun e w' => e = .returned (.bool true) ∧ Below w.heap.size w w' := by
  have HN : Hid (k % 8 - 3 < 1 ∨ 64 < k % 8 - 3) := hn
  clear hn
  go_enter Ybaf.func4, Ybaf.ntmps4
  go_wp2_with (go_at_call 5; refine (check_bad F (k % 8 - 3) _ hF HN.out).mono ?_; rintro e w' ⟨rfl, hb⟩)
  go_quiet ((go_at_call 6; exact Calls.quiet_of_same (want_no (k % 8 - 3) _ HN.out)))
  go_wp2
  go_ret
  exact ⟨rfl, hb.trans ⟨rfl, rfl, rfl, Nat.le_refl _, fun _ _ => rfl⟩⟩

set_option maxHeartbeats 400000 in
theorem edges_low_ok (k : Int) (w : World) (h0 : 0 ≤ k) (h255 : k ≤ 255) (h1 : 1 ≤ k % 8 - 3) (h2 : k % 8 - 3 ≤ 64) :
    Calls Ybaf.prog 4 #[.int .u8 k, .bool false] w fun e w' => e = .returned (.bool true) ∧ Below w.heap.size w w' := by
  have HN : Hid (1 ≤ k % 8 - 3 ∧ k % 8 - 3 ≤ 64) := ⟨h1, h2⟩
  clear h1 h2
  go_enter Ybaf.func4, Ybaf.ntmps4
  go_wp2_with (go_at_call 5; refine (check_ok (k % 8 - 3) _ HN.out.1 HN.out.2).mono ?_; rintro e w' ⟨rfl, rfl⟩)
  go_quiet ((go_at_call 6; exact Calls.quiet_of_same (want_yes (k % 8 - 3) _ HN.out.1 HN.out.2)))
  go_wp2
  go_ret
  exact ⟨rfl, ⟨rfl, rfl, rfl, Nat.le_refl _, fun _ _ => rfl⟩⟩

set_option maxHeartbeats 400000 in
theorem edges_high_bad (F : Interp) (k : Int) (w : World) (hF : F.answers w.tape) (h0 : 0 ≤ k) (h255 : k ≤ 255) (hn : 60 + k % 10 < 1 ∨ 64 < 60 + k % 10) :
    Calls Ybaf.prog 4 #[.int .u8 k, .bool true] w fun e w' => e = .returned (.bool true) ∧ Below w.heap.size w w' := by
  have HN : Hid (60 + k % 10 < 1 ∨ 64 < 60 + k % 10) := hn
  clear hn
  go_enter Ybaf.func4, Ybaf.ntmps4
  go_wp2_with (go_at_call 5; refine (check_bad F (60 + k % 10) _ hF HN.out).mono ?_; rintro e w' ⟨rfl, hb⟩)
  go_quiet ((go_at_call 6; exact Calls.quiet_of_same (want_no (60 + k % 10) _ HN.out)))
  go_wp2
  go_ret
  exact ⟨rfl, hb.trans ⟨rfl, rfl, rfl, Nat.le_refl _, fun _ _ => rfl⟩⟩

set_option maxHeartbeats 400000 in
theorem edges_high_ok (k : Int) (w : World) (h0 : 0 ≤ k) (h255 : k ≤ 255) (h1 : 1 ≤ 60 + k % 10) (h2 : 60 + k % 10 ≤ 64) :
    Calls Ybaf.prog 4 #[.int .u8 k, .bool true] w fun e w' => e = .returned (.bool true) ∧ Below w.heap.size w w' := by
  have HN : Hid (1 ≤ 60 + k % 10 ∧ 60 + k % 10 ≤ 64) := ⟨h1, h2⟩
  clear h1 h2
  go_enter Ybaf.func4, Ybaf.ntmps4
  go_wp2_with (go_at_call 5; refine (check_ok (60 + k % 10) _ HN.out.1 HN.out.2).mono ?_; rintro e w' ⟨rfl, rfl⟩)
  go_quiet ((go_at_call 6; exact Calls.quiet_of_same (want_yes (60 + k % 10) _ HN.out.1 HN.out.2)))
  go_wp2
  go_ret
  exact ⟨rfl, ⟨rfl, rfl, rfl, Nat.le_refl _, fun _ _ => rfl⟩⟩

theorem edges_any (F : Interp) (k : Int) (hi : Bool) (w : World) (hF : F.answers w.tape) (h0 : 0 ≤ k) (h255 : k ≤ 255) :
    Calls Ybaf.prog 4 #[.int .u8 k, .bool hi] w fun e w' => e = .returned (.bool true) ∧ Below w.heap.size w w' := by
  cases hi
  · by_cases hn : k % 8 - 3 < 1 ∨ 64 < k % 8 - 3
    · exact edges_low_bad F k w hF h0 h255 hn
    · exact edges_low_ok k w h0 h255 (by omega) (by omega)
  · by_cases hn : 60 + k % 10 < 1 ∨ 64 < 60 + k % 10
    · exact edges_high_bad F k w hF h0 h255 hn
    · exact edges_high_ok k w h0 h255 (by omega) (by omega)
end Go.Proofs.YbulkbkqgFmt
