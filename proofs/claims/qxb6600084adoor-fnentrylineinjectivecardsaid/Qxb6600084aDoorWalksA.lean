/-
  The small functions of the law's package: walks.
-/
import Derived.Test.Qxb6600084aDoorRows
import Derived.Test.Qxb6600084aDoorPlain
import Derived.WalkKit
import Derived.WalkLawsBesides
import Derived.WalkSpells
import Derived.Outline
namespace Go.Proofs.Qxb6600084aDoor
open Go.RowKit

theorem ret_bool {a b : Bool} (h : a = b) : Ending.returned (.bool a) = .returned (.bool b) := by rw [h]
theorem ret_int {k : IntKind} {a b : Int} (h : a = b) : Ending.returned (.int k a) = .returned (.int k b) := by rw [h]

set_option maxHeartbeats 400000 in
theorem tooBig (s0 s2 s3 s4 s5 s6 s7 s8 : ByteArray) (q : Int) (w : World) (h0 : s0.size ≤ 1048576) (h2 : s2.size ≤ 1048576) (h3 : s3.size ≤ 1048576) (h4 : s4.size ≤ 1048576) (h5 : s5.size ≤ 1048576) (h6 : s6.size ≤ 1048576) (h7 : s7.size ≤ 1048576) (h8 : s8.size ≤ 1048576) :
    Calls Tryd.prog 9 #[.agg #[.string s0, .int .i64 q, .string s2, .string s3, .string s4, .string s5, .string s6, .string s7, .string s8]] w fun e w' =>
      e = .returned (.bool false) ∧ w' = w.alloc (.cells #[.string s0, .int .i64 q, .string s2, .string s3, .string s4, .string s5, .string s6, .string s7, .string s8] 25) := by
  go_enter Tryd.func9, Tryd.ntmps9
  go_wp2
  go_ret
  exact ⟨ret_bool (by simp; omega), rfl⟩

set_option maxHeartbeats 400000 in
theorem sealBytes (s0 s2 s3 s4 s5 s6 s7 s8 : ByteArray) (q : Int) (w : World) (h0 : s0.size ≤ 1048576) (h2 : s2.size ≤ 1048576) (h3 : s3.size ≤ 1048576) (h4 : s4.size ≤ 1048576) (h5 : s5.size ≤ 1048576) (h6 : s6.size ≤ 1048576) (h7 : s7.size ≤ 1048576) (h8 : s8.size ≤ 1048576) :
    Calls Tryd.prog 10 #[.agg #[.string s0, .int .i64 q, .string s2, .string s3, .string s4, .string s5, .string s6, .string s7, .string s8]] w fun e w' =>
      e = .returned (.int .i64 (s0.size + s2.size + s3.size + s4.size + s5.size + s6.size + s7.size + s8.size)) ∧ w' = w.alloc (.cells #[.string s0, .int .i64 q, .string s2, .string s3, .string s4, .string s5, .string s6, .string s7, .string s8] 25) := by
  go_enter Tryd.func10, Tryd.ntmps10
  go_wp2
  go_ret
  exact ⟨rfl, rfl⟩

set_option maxHeartbeats 400000 in
theorem toSeal (s0 s2 s3 s4 s5 s6 s7 s8 : ByteArray) (q : Int) (w : World) :
    Calls Tryd.prog 14 #[.agg #[.string s0, .int .i64 q, .string s2, .string s3, .string s4, .string s5, .string s6, .string s7, .string s8]] w fun e w' =>
      e = .returned (.pointer (some ⟨w.heap.size + 1, 0, none⟩)) ∧ w' = (w.alloc (.cells #[.string s0, .int .i64 q, .string s2, .string s3, .string s4, .string s5, .string s6, .string s7, .string s8] 25)).alloc (.cells #[.string s0, .int .i64 q, .string s2, .string s3, .string s4, .string s5, .string s6, .string s7, .string s8] 43) := by
  go_enter Tryd.func14, Tryd.ntmps14
  go_wp2
  go_ret
  exact ⟨rfl, rfl⟩

set_option maxHeartbeats 800000 in
theorem bytesOne_yes (a : Option Addr) (n c : Nat) (s0 s2 s3 s4 s5 s6 s7 s8 : ByteArray) (q : Int) (w : World) (h : n + s0.size + s2.size + s3.size + s4.size + s5.size + s6.size + s7.size + s8.size ≤ 1048576) :
    Calls Tryd.prog 20 #[.slice a n c, .agg #[.string s0, .int .i64 q, .string s2, .string s3, .string s4, .string s5, .string s6, .string s7, .string s8]] w fun e w' =>
      e = .returned (.bool true) ∧ w' = w.alloc (.cells #[.string s0, .int .i64 q, .string s2, .string s3, .string s4, .string s5, .string s6, .string s7, .string s8] 25) := by
  go_enter Tryd.func20, Tryd.ntmps20
  go_wp2
  go_ret
  exact ⟨rfl, rfl⟩

set_option maxHeartbeats 1600000 in
theorem bytesOne_no (a : Option Addr) (n c : Nat) (s0 s2 s3 s4 s5 s6 s7 s8 : ByteArray) (q : Int) (w : World) (h : ¬ n + s0.size + s2.size + s3.size + s4.size + s5.size + s6.size + s7.size + s8.size ≤ 1048576) :
    Calls Tryd.prog 20 #[.slice a n c, .agg #[.string s0, .int .i64 q, .string s2, .string s3, .string s4, .string s5, .string s6, .string s7, .string s8]] w fun e w' =>
      e = .returned (.bool false) ∧ w' = w.alloc (.cells #[.string s0, .int .i64 q, .string s2, .string s3, .string s4, .string s5, .string s6, .string s7, .string s8] 25) := by
  go_enter Tryd.func20, Tryd.ntmps20
  go_wp2
  all_goals
    go_ret
    exact ⟨rfl, rfl⟩
end Go.Proofs.Qxb6600084aDoor
