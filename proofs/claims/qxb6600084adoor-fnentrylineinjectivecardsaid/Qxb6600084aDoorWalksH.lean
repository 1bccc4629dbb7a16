/-
  The law FnEntryLineInjective: the walk.
-/
import Derived.Test.Qxb6600084aDoorWalksG
namespace Go.Proofs.Qxb6600084aDoor
open Go.RowKit

set_option maxHeartbeats 800000 in
theorem two_big (x y : Option Addr) (n m c d : Nat) (a0 a2 a3 a4 a5 a6 a7 a8 b0 b2 b3 b4 b5 b6 b7 b8 : ByteArray) (aq bq : Int) (w : World) (h : ¬ n + a0.size + a2.size + a3.size + a4.size + a5.size + a6.size + a7.size + a8.size + m + b0.size + b2.size + b3.size + b4.size + b5.size + b6.size + b7.size + b8.size ≤ 1048576) :
    Calls Tryd.prog 7 #[.slice x n c, .agg #[.string a0, .int .i64 aq, .string a2, .string a3, .string a4, .string a5, .string a6, .string a7, .string a8], .slice y m d, .agg #[.string b0, .int .i64 bq, .string b2, .string b3, .string b4, .string b5, .string b6, .string b7, .string b8]] w fun e w' => e = .returned (.bool true) ∧ Below w.heap.size w w' := by
  go_enter Tryd.func7, Tryd.ntmps7
  go_wp2_with (go_at_call 23; refine (bytesTwo_no x y n m c d a0 a2 a3 a4 a5 a6 a7 a8 b0 b2 b3 b4 b5 b6 b7 b8 aq bq _ h).mono ?_; rintro e w1 ⟨rfl, rfl⟩)
  go_ret
  exact ⟨rfl, below4 w _ _ _ _⟩

theorem sameSeal2 (a0 a2 a3 a4 a5 a6 a7 a8 b0 b2 b3 b4 b5 b6 b7 b8 : ByteArray) (aq bq : Int) (w : World) (h : (⟨a0, aq, a2, a3, a4, a5, a6, a7, a8⟩ : Plain.Z) = ⟨b0, bq, b2, b3, b4, b5, b6, b7, b8⟩) :
    Calls Tryd.prog 19 #[.agg #[.string a0, .int .i64 aq, .string a2, .string a3, .string a4, .string a5, .string a6, .string a7, .string a8], .agg #[.string b0, .int .i64 bq, .string b2, .string b3, .string b4, .string b5, .string b6, .string b7, .string b8], .bool true] w fun e w' => e = .returned (.bool true) ∧ Below w.heap.size w w' := by
  simp only [Plain.Z.mk.injEq] at h
  obtain ⟨rfl, rfl, rfl, rfl, rfl, rfl, rfl, rfl, rfl⟩ := h
  exact sameSeal a0 a2 a3 a4 a5 a6 a7 a8 aq w

theorem below8d (w : World) (o1 o2 o3 o4 o5 o6 o7 o8 : Obj) : Below w.heap.size w ((((((((w.alloc o1).alloc o2).alloc o3).alloc o4).alloc o5).alloc o6).alloc o7).alloc o8).drew := (((((((((Below.refl _ _).alloc (by simp <;> omega) _).alloc (by simp <;> omega) _).alloc (by simp <;> omega) _).alloc (by simp <;> omega) _).alloc (by simp <;> omega) _).alloc (by simp <;> omega) _).alloc (by simp <;> omega) _).alloc (by simp <;> omega) _).drew
theorem below7d (w : World) (o1 o2 o3 o4 o5 o6 o7 : Obj) : Below w.heap.size w (((((((w.alloc o1).alloc o2).alloc o3).alloc o4).alloc o5).alloc o6).alloc o7).drew := ((((((((Below.refl _ _).alloc (by simp <;> omega) _).alloc (by simp <;> omega) _).alloc (by simp <;> omega) _).alloc (by simp <;> omega) _).alloc (by simp <;> omega) _).alloc (by simp <;> omega) _).alloc (by simp <;> omega) _).drew
theorem below6d (w : World) (o1 o2 o3 o4 o5 o6 : Obj) : Below w.heap.size w ((((((w.alloc o1).alloc o2).alloc o3).alloc o4).alloc o5).alloc o6).drew := (((((((Below.refl _ _).alloc (by simp <;> omega) _).alloc (by simp <;> omega) _).alloc (by simp <;> omega) _).alloc (by simp <;> omega) _).alloc (by simp <;> omega) _).alloc (by simp <;> omega) _).drew

set_option maxHeartbeats 6400000 in
theorem two_small (x y : Option Addr) (c d : Nat) (r1 r2 : List UInt8) (a0 a2 a3 a4 a5 a6 a7 a8 b0 b2 b3 b4 b5 b6 b7 b8 : ByteArray) (aq bq : Int) (w : World) (ha0 : -9223372036854775808 ≤ aq) (ha1 : aq ≤ 9223372036854775807) (hbq0 : -9223372036854775808 ≤ bq) (hbq1 : bq ≤ 9223372036854775807)
    (h : r1.length + a0.size + a2.size + a3.size + a4.size + a5.size + a6.size + a7.size + a8.size + r2.length + b0.size + b2.size + b3.size + b4.size + b5.size + b6.size + b7.size + b8.size ≤ 1048576) (hrow1 : RowOf w x c r1) (hrow2 : RowOf w y d r2) (htab : Lib.TabIs Tryd.prog w powName .u64 Lib.pow10Tab) :
    Calls Tryd.prog 7 #[.slice x r1.length c, .agg #[.string a0, .int .i64 aq, .string a2, .string a3, .string a4, .string a5, .string a6, .string a7, .string a8], .slice y r2.length d, .agg #[.string b0, .int .i64 bq, .string b2, .string b3, .string b4, .string b5, .string b6, .string b7, .string b8]] w fun e w' => e = .returned (.bool true) ∧ Below w.heap.size w w' := by
  have hsum : ¬ (1048576 : Int) < (r1.length : Int) + (r2.length : Int) + ((a0.size : Int) + (a2.size : Int) + (a3.size : Int) + (a4.size : Int) + (a5.size : Int) + (a6.size : Int) + (a7.size : Int) + (a8.size : Int)) + ((b0.size : Int) + (b2.size : Int) + (b3.size : Int) + (b4.size : Int) + (b5.size : Int) + (b6.size : Int) + (b7.size : Int) + (b8.size : Int)) := by omega
  go_enter Tryd.func7, Tryd.ntmps7
  go_wp2_with fail
  refine (bytesTwo_yes x y r1.length r2.length c d a0 a2 a3 a4 a5 a6 a7 a8 b0 b2 b3 b4 b5 b6 b7 b8 aq bq _ h).mono ?_
  rintro e w1 ⟨rfl, rfl⟩
  go_wp2_with fail
  refine (tooBig a0 a2 a3 a4 a5 a6 a7 a8 aq _ (by omega) (by omega) (by omega) (by omega) (by omega) (by omega) (by omega) (by omega)).mono ?_
  rintro e w1 ⟨rfl, rfl⟩
  go_wp2_with fail
  refine (tooBig b0 b2 b3 b4 b5 b6 b7 b8 bq _ (by omega) (by omega) (by omega) (by omega) (by omega) (by omega) (by omega) (by omega)).mono ?_
  rintro e w1 ⟨rfl, rfl⟩
  go_wp2_with fail
  go_region_with (first | (go_at_call_of 10 (Value.agg #[.string a0, .int .i64 aq, .string a2, .string a3, .string a4, .string a5, .string a6, .string a7, .string a8]); refine (sealBytes a0 a2 a3 a4 a5 a6 a7 a8 aq _ (by omega) (by omega) (by omega) (by omega) (by omega) (by omega) (by omega) (by omega)).mono ?_; rintro e w1 ⟨rfl, rfl⟩) | (go_at_call_of 10 (Value.agg #[.string b0, .int .i64 bq, .string b2, .string b3, .string b4, .string b5, .string b6, .string b7, .string b8]); refine (sealBytes b0 b2 b3 b4 b5 b6 b7 b8 bq _ (by omega) (by omega) (by omega) (by omega) (by omega) (by omega) (by omega) (by omega)).mono ?_; rintro e w1 ⟨rfl, rfl⟩))
  all_goals
    go_wp2_with fail
    · go_ret
      exact ⟨rfl, below8d w _ _ _ _ _ _ _ _⟩
    refine (cloneBytes x c r1 _ (hrow1.below (below8d w _ _ _ _ _ _ _ _)) (by omega)).mono ?_
    rintro e w1 ⟨v1, rfl, o1, b1⟩
    have hA1 : At w1 w.heap.size a0 a2 a3 a4 a5 a6 a7 a8 aq := ((at_new w 25 a0 a2 a3 a4 a5 a6 a7 a8 aq).below (below7d _ _ _ _ _ _ _ _) (by simp)).below b1 (by simp <;> omega)
    have hB1 : At w1 (w.heap.size + 1) b0 b2 b3 b4 b5 b6 b7 b8 bq := by
      have t := at_new (w.alloc (.cells #[.string a0, .int .i64 aq, .string a2, .string a3, .string a4, .string a5, .string a6, .string a7, .string a8] 25)) 25 b0 b2 b3 b4 b5 b6 b7 b8 bq
      rw [World.size_alloc] at t
      exact (t.below (below6d _ _ _ _ _ _ _) (by simp)).below b1 (by simp <;> omega)
    have hb1 : Below w.heap.size w w1 := (below8d w _ _ _ _ _ _ _ _).trans (b1.mono (by simp <;> omega))
    have hT1 := tab_below htab hb1
    have hs1 : w.heap.size + 1 < w1.heap.size := Nat.lt_of_lt_of_le (by simp <;> omega) b1.size
    have hrow3 := hrow2.below hb1
    clear b1
    go_wp2_with fail
    refine (cloneBytes y d r2 _ hrow3 (by omega)).mono ?_
    rintro e w2 ⟨v2, rfl, o2, hd2⟩
    have hb2 : Below w.heap.size w w2 := hb1.trans (hd2.mono (by omega))
    have hT2 := tab_below hT1 hd2
    have hA2 := hA1.below hd2 (by omega)
    have hB2 := hB1.below hd2 (by omega)
    have hs2 : w.heap.size + 1 < w2.heap.size := Nat.lt_of_lt_of_le hs1 hd2.size
    have o1 := o1.below hd2
    clear hd2 hT1 hb1 hs1
    have hP3 := hA2
    obtain ⟨p0, p1, p2, p3, p4, p5, p6, p7, p8⟩ := hP3
    go_wp2_with fail
    refine (toSeal a0 a2 a3 a4 a5 a6 a7 a8 aq _).mono ?_
    rintro e w' ⟨rfl, rfl⟩
    clear p0 p1 p2 p3 p4 p5 p6 p7 p8
    go_wp2_with fail
    have hN3 : At ((w2.alloc (.cells #[.string a0, .int .i64 aq, .string a2, .string a3, .string a4, .string a5, .string a6, .string a7, .string a8] 25)).alloc (.cells #[.string a0, .int .i64 aq, .string a2, .string a3, .string a4, .string a5, .string a6, .string a7, .string a8] 43)) (w2.heap.size + 1) a0 a2 a3 a4 a5 a6 a7 a8 aq := by
      have := at_new (w2.alloc (.cells #[.string a0, .int .i64 aq, .string a2, .string a3, .string a4, .string a5, .string a6, .string a7, .string a8] 25)) 43 a0 a2 a3 a4 a5 a6 a7 a8 aq
      rwa [World.size_alloc] at this
    obtain ⟨p0, p1, p2, p3, p4, p5, p6, p7, p8⟩ := hN3
    have hc3 : Below w2.heap.size w2 ((w2.alloc (.cells #[.string a0, .int .i64 aq, .string a2, .string a3, .string a4, .string a5, .string a6, .string a7, .string a8] 25)).alloc (.cells #[.string a0, .int .i64 aq, .string a2, .string a3, .string a4, .string a5, .string a6, .string a7, .string a8] 43)) := ((Below.refl _ _).alloc (Nat.le_refl _) _).alloc (by simp) _
    refine (entryLine (w2.heap.size + 1) a0 a2 a3 a4 a5 a6 a7 a8 aq _ ha0 ha1 (by simp) (by omega) (tab_below hT2 hc3) p0 p1 p2 p3 p4 p5 p6 p7 p8 ((o1.alloc _).alloc _) (by omega)).mono ?_
    clear p0 p1 p2 p3 p4 p5 p6 p7 p8
    rintro e w3 ⟨v3, rfl, o3, b3⟩
    have hd3 : Below w2.heap.size w2 w3 := hc3.trans (b3.mono (by simp <;> omega))
    clear hc3 b3
    have hb3 : Below w.heap.size w w3 := hb2.trans (hd3.mono (by omega))
    have hT3 := tab_below hT2 hd3
    have hA3 := hA2.below hd3 (by omega)
    have hB3 := hB2.below hd3 (by omega)
    have hs3 : w.heap.size + 1 < w3.heap.size := Nat.lt_of_lt_of_le hs2 hd3.size
    have o1 := o1.below hd3
    have o2 := o2.below hd3
    clear hd3 hT2 hb2 hs2
    have hP4 := hB3
    obtain ⟨p0, p1, p2, p3, p4, p5, p6, p7, p8⟩ := hP4
    go_wp2_with fail
    refine (toSeal b0 b2 b3 b4 b5 b6 b7 b8 bq _).mono ?_
    rintro e w' ⟨rfl, rfl⟩
    clear p0 p1 p2 p3 p4 p5 p6 p7 p8
    go_wp2_with fail
    have hN4 : At ((w3.alloc (.cells #[.string b0, .int .i64 bq, .string b2, .string b3, .string b4, .string b5, .string b6, .string b7, .string b8] 25)).alloc (.cells #[.string b0, .int .i64 bq, .string b2, .string b3, .string b4, .string b5, .string b6, .string b7, .string b8] 43)) (w3.heap.size + 1) b0 b2 b3 b4 b5 b6 b7 b8 bq := by
      have := at_new (w3.alloc (.cells #[.string b0, .int .i64 bq, .string b2, .string b3, .string b4, .string b5, .string b6, .string b7, .string b8] 25)) 43 b0 b2 b3 b4 b5 b6 b7 b8 bq
      rwa [World.size_alloc] at this
    obtain ⟨p0, p1, p2, p3, p4, p5, p6, p7, p8⟩ := hN4
    have hc4 : Below w3.heap.size w3 ((w3.alloc (.cells #[.string b0, .int .i64 bq, .string b2, .string b3, .string b4, .string b5, .string b6, .string b7, .string b8] 25)).alloc (.cells #[.string b0, .int .i64 bq, .string b2, .string b3, .string b4, .string b5, .string b6, .string b7, .string b8] 43)) := ((Below.refl _ _).alloc (Nat.le_refl _) _).alloc (by simp) _
    refine (entryLine (w3.heap.size + 1) b0 b2 b3 b4 b5 b6 b7 b8 bq _ hbq0 hbq1 (by simp) (by omega) (tab_below hT3 hc4) p0 p1 p2 p3 p4 p5 p6 p7 p8 ((o2.alloc _).alloc _) (by omega)).mono ?_
    clear p0 p1 p2 p3 p4 p5 p6 p7 p8
    rintro e w4 ⟨v4, rfl, o4, b4⟩
    have hd4 : Below w3.heap.size w3 w4 := hc4.trans (b4.mono (by simp <;> omega))
    clear hc4 b4
    have hb4 : Below w.heap.size w w4 := hb3.trans (hd4.mono (by omega))
    have hT4 := tab_below hT3 hd4
    have hA4 := hA3.below hd4 (by omega)
    have hB4 := hB3.below hd4 (by omega)
    have hs4 : w.heap.size + 1 < w4.heap.size := Nat.lt_of_lt_of_le hs3 hd4.size
    have o1 := o1.below hd4
    have o2 := o2.below hd4
    have o3 := o3.below hd4
    clear hd4 hT3 hb3 hs3
    have hl1 := entry_le r1 ⟨a0, aq, a2, a3, a4, a5, a6, a7, a8⟩ (form_le _ ha0 ha1 (by show a0.size + a2.size + a3.size + a4.size + a5.size + a6.size + a7.size + a8.size ≤ 1048576; omega)) (by omega)
    have hE : Hid ((Plain.entry r1 ⟨a0, aq, a2, a3, a4, a5, a6, a7, a8⟩ == Plain.entry r2 ⟨b0, bq, b2, b3, b4, b5, b6, b7, b8⟩) = true → r1 = r2 ∧ (⟨a0, aq, a2, a3, a4, a5, a6, a7, a8⟩ : Plain.Z) = ⟨b0, bq, b2, b3, b4, b5, b6, b7, b8⟩) := fun e => Plain.entry_inj (beq_iff_eq.1 e)
    generalize Plain.entry r1 ⟨a0, aq, a2, a3, a4, a5, a6, a7, a8⟩ = E1 at o3 hl1 hE
    generalize Plain.entry r2 ⟨b0, bq, b2, b3, b4, b5, b6, b7, b8⟩ = E2 at o4 hE
    go_wp2_with fail
    refine (bytesEqual o3 o4 (by omega)).mono ?_
    rintro e w5 ⟨rfl, n5, rfl⟩
    cases h12 : (E1 == E2)
    · go_wp2
      go_ret
      exact ⟨rfl, hb4.trans (below_drewN _ _ _)⟩
    · obtain ⟨er, ez⟩ := hE.out h12
      have eb : (r1 == r2) = true := beq_iff_eq.2 er
      have EZ : Hid ((⟨a0, aq, a2, a3, a4, a5, a6, a7, a8⟩ : Plain.Z) = ⟨b0, bq, b2, b3, b4, b5, b6, b7, b8⟩) := ez
      clear er ez hE
      obtain ⟨p0, p1, p2, p3, p4, p5, p6, p7, p8⟩ := hA4
      obtain ⟨q0, q1, q2, q3, q4, q5, q6, q7, q8⟩ := hB4
      go_wp2_with fail
      refine (bytesEqual (o1.below (below_drewN w4 n5 _)) (o2.below (below_drewN w4 n5 _)) (by omega)).mono ?_
      rintro e w6 ⟨rfl, n6, rfl⟩
      rw [eb]
      go_wp2_with fail
      refine (sameSeal2 a0 a2 a3 a4 a5 a6 a7 a8 b0 b2 b3 b4 b5 b6 b7 b8 aq bq _ EZ.out).mono ?_
      rintro e w7 ⟨rfl, b7⟩
      go_wp2
      go_ret
      exact ⟨rfl, (hb4.trans (below_drewN w4 (n5 + n6) _)).trans (b7.mono (by exact hb4.size))⟩
end Go.Proofs.Qxb6600084aDoor
