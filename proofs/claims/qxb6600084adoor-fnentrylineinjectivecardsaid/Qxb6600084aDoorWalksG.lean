/-
  The law FnEntryLineInjective: its own small functions, and the walk.
-/
import Derived.Test.Qxb6600084aDoorWalksF
import Derived.Deep.RegionHeld3
import Derived.Deep.RegionWith
namespace Go.Proofs.Qxb6600084aDoor
open Go.RowKit

set_option maxRecDepth 100000 in
set_option maxHeartbeats 1600000 in
theorem bytesTwo_yes (x y : Option Addr) (n m c d : Nat) (a0 a2 a3 a4 a5 a6 a7 a8 b0 b2 b3 b4 b5 b6 b7 b8 : ByteArray) (aq bq : Int) (w : World) (h : n + a0.size + a2.size + a3.size + a4.size + a5.size + a6.size + a7.size + a8.size + m + b0.size + b2.size + b3.size + b4.size + b5.size + b6.size + b7.size + b8.size ≤ 1048576) :
    Calls Tryd.prog 23 #[.slice x n c, .agg #[.string a0, .int .i64 aq, .string a2, .string a3, .string a4, .string a5, .string a6, .string a7, .string a8], .slice y m d, .agg #[.string b0, .int .i64 bq, .string b2, .string b3, .string b4, .string b5, .string b6, .string b7, .string b8]] w fun e w' =>
      e = .returned (.bool true) ∧ w' = (w.alloc (.cells #[.string a0, .int .i64 aq, .string a2, .string a3, .string a4, .string a5, .string a6, .string a7, .string a8] 25)).alloc (.cells #[.string b0, .int .i64 bq, .string b2, .string b3, .string b4, .string b5, .string b6, .string b7, .string b8] 25) := by
  go_enter Tryd.func23, Tryd.ntmps23
  go_wp2
  go_ret
  exact ⟨rfl, rfl⟩

set_option maxRecDepth 100000 in
set_option maxHeartbeats 6400000 in
theorem bytesTwo_no (x y : Option Addr) (n m c d : Nat) (a0 a2 a3 a4 a5 a6 a7 a8 b0 b2 b3 b4 b5 b6 b7 b8 : ByteArray) (aq bq : Int) (w : World) (h : ¬ n + a0.size + a2.size + a3.size + a4.size + a5.size + a6.size + a7.size + a8.size + m + b0.size + b2.size + b3.size + b4.size + b5.size + b6.size + b7.size + b8.size ≤ 1048576) :
    Calls Tryd.prog 23 #[.slice x n c, .agg #[.string a0, .int .i64 aq, .string a2, .string a3, .string a4, .string a5, .string a6, .string a7, .string a8], .slice y m d, .agg #[.string b0, .int .i64 bq, .string b2, .string b3, .string b4, .string b5, .string b6, .string b7, .string b8]] w fun e w' =>
      e = .returned (.bool false) ∧ w' = (w.alloc (.cells #[.string a0, .int .i64 aq, .string a2, .string a3, .string a4, .string a5, .string a6, .string a7, .string a8] 25)).alloc (.cells #[.string b0, .int .i64 bq, .string b2, .string b3, .string b4, .string b5, .string b6, .string b7, .string b8] 25) := by
  go_enter Tryd.func23, Tryd.ntmps23
  go_wp2
  all_goals
    go_ret
    exact ⟨rfl, rfl⟩

set_option maxHeartbeats 800000 in
theorem sameSeal (a0 a2 a3 a4 a5 a6 a7 a8 : ByteArray) (aq : Int) (w : World) :
    Calls Tryd.prog 19 #[.agg #[.string a0, .int .i64 aq, .string a2, .string a3, .string a4, .string a5, .string a6, .string a7, .string a8], .agg #[.string a0, .int .i64 aq, .string a2, .string a3, .string a4, .string a5, .string a6, .string a7, .string a8], .bool true] w fun e w' => e = .returned (.bool true) ∧ Below w.heap.size w w' := by
  go_enter Tryd.func19, Tryd.ntmps19
  go_wp2
  go_ret
  exact ⟨rfl, ((Below.refl _ _).alloc (Nat.le_refl _) _).alloc (by simp) _⟩
end Go.Proofs.Qxb6600084aDoor
