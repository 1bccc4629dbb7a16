/-
  The law FnEntryLineIsOneLine: the walk.
-/
import Derived.Test.Qxb6600084aDoorWalksE
namespace Go.Proofs.Qxb6600084aDoor
open Go.RowKit

theorem RowOf.below {w w' : World} {a : Option Addr} {cap : Nat} {l : List UInt8} (h : RowOf w a cap l) (hb : Below w.heap.size w w') : RowOf w' a cap l := by
  rcases h with h | h | ⟨b, off, ha, hlt, hc⟩
  · exact .inl h
  · exact .inr (.inl h)
  · exact .inr (.inr ⟨b, off, ha, Nat.lt_of_lt_of_le hlt hb.size, fun j hj => (hb.cell (by exact hlt)).trans (hc j hj)⟩)

theorem below4 (w : World) (o1 o2 o3 o4 : Obj) : Below w.heap.size w ((((w.alloc o1).alloc o2).alloc o3).alloc o4) :=
  ((((Below.refl _ _).alloc (Nat.le_refl _) _).alloc (by simp) _).alloc (by simp; omega) _).alloc (by simp; omega) _

theorem below3 (w : World) (o1 o2 o3 : Obj) : Below w.heap.size w (((w.alloc o1).alloc o2).alloc o3) :=
  (((Below.refl _ _).alloc (Nat.le_refl _) _).alloc (by simp) _).alloc (by simp; omega) _

/-- The nine cells of a seal's struct in block p. -/
def At (w : World) (p : Nat) (s0 s2 s3 s4 s5 s6 s7 s8 : ByteArray) (q : Int) : Prop :=
  w.cell? ⟨p, 0, none⟩ = some (.string s0) ∧ w.cell? ⟨p, 1, none⟩ = some (.int .i64 q) ∧ w.cell? ⟨p, 2, none⟩ = some (.string s2) ∧ w.cell? ⟨p, 3, none⟩ = some (.string s3) ∧ w.cell? ⟨p, 4, none⟩ = some (.string s4) ∧ w.cell? ⟨p, 5, none⟩ = some (.string s5) ∧ w.cell? ⟨p, 6, none⟩ = some (.string s6) ∧ w.cell? ⟨p, 7, none⟩ = some (.string s7) ∧ w.cell? ⟨p, 8, none⟩ = some (.string s8)

theorem at_new (w : World) (t : TypeId) (s0 s2 s3 s4 s5 s6 s7 s8 : ByteArray) (q : Int) : At (w.alloc (.cells #[.string s0, .int .i64 q, .string s2, .string s3, .string s4, .string s5, .string s6, .string s7, .string s8] t)) w.heap.size s0 s2 s3 s4 s5 s6 s7 s8 q := by
  unfold At
  simp

theorem At.below {w w' : World} {p : Nat} {s0 s2 s3 s4 s5 s6 s7 s8 : ByteArray} {q : Int} (h : At w p s0 s2 s3 s4 s5 s6 s7 s8 q) {B : Nat} (hb : Below B w w') (hp : p < B) : At w' p s0 s2 s3 s4 s5 s6 s7 s8 q := by
  obtain ⟨h0, h1, h2, h3, h4, h5, h6, h7, h8⟩ := h
  exact ⟨(hb.cell (by exact hp)).trans h0, (hb.cell (by exact hp)).trans h1, (hb.cell (by exact hp)).trans h2, (hb.cell (by exact hp)).trans h3, (hb.cell (by exact hp)).trans h4, (hb.cell (by exact hp)).trans h5, (hb.cell (by exact hp)).trans h6, (hb.cell (by exact hp)).trans h7, (hb.cell (by exact hp)).trans h8⟩

theorem tab_below {w w' : World} (h : Lib.TabIs Tryd.prog w powName .u64 Lib.pow10Tab) (hb : Below w.heap.size w w') : Lib.TabIs Tryd.prog w' powName .u64 Lib.pow10Tab := Lib.tabBelow_of_tabIs h w' hb

set_option maxHeartbeats 800000 in
theorem one_big (a : Option Addr) (n cap : Nat) (s0 s2 s3 s4 s5 s6 s7 s8 : ByteArray) (q : Int) (w : World) (h : ¬ n + s0.size + s2.size + s3.size + s4.size + s5.size + s6.size + s7.size + s8.size ≤ 1048576) :
    Calls Tryd.prog 6 #[.slice a n cap, .agg #[.string s0, .int .i64 q, .string s2, .string s3, .string s4, .string s5, .string s6, .string s7, .string s8]] w fun e w' => e = .returned (.bool true) ∧ Below w.heap.size w w' := by
  go_enter Tryd.func6, Tryd.ntmps6
  go_wp2_with (go_at_call 20; refine (bytesOne_no a n cap s0 s2 s3 s4 s5 s6 s7 s8 q _ h).mono ?_; rintro e w1 ⟨rfl, rfl⟩)
  go_ret
  exact ⟨rfl, ((Below.refl _ _).alloc (Nat.le_refl _) _).alloc (by simp) _⟩

theorem entry_last (r : List UInt8) (z : Plain.Z) : ∃ k, (Plain.entry r z).length = k + 1 ∧ ∀ h : k < (Plain.entry r z).length, (Plain.entry r z)[k] = 10 := by
  have e : Plain.entry r z = (Plain.kStart ++ (r ++ (Plain.kSeal ++ (Plain.form z ++ [125])))) ++ [10] := by
    simp only [Plain.entry, List.append_assoc]
    rfl
  refine ⟨(Plain.kStart ++ (r ++ (Plain.kSeal ++ (Plain.form z ++ [125])))).length, by rw [e, List.length_append]; rfl, fun h => ?_⟩
  simp only [e]
  exact List.getElem_concat_length rfl _

theorem entry_le (r : List UInt8) (z : Plain.Z) (hf : (Plain.form z).length ≤ 7000000) (hr : r.length ≤ 1048576) : (Plain.entry r z).length ≤ 10000000 := by
  unfold Plain.entry
  rw [List.length_append, List.length_append, List.length_append, List.length_append]
  show 10 + (_ + (8 + (_ + 2))) ≤ _
  omega

set_option maxHeartbeats 1600000 in
theorem one_small (a : Option Addr) (cap : Nat) (r : List UInt8) (s0 s2 s3 s4 s5 s6 s7 s8 : ByteArray) (q : Int) (w : World) (hq0 : -9223372036854775808 ≤ q) (hq1 : q ≤ 9223372036854775807)
    (h : r.length + s0.size + s2.size + s3.size + s4.size + s5.size + s6.size + s7.size + s8.size ≤ 1048576) (hrow : RowOf w a cap r) (htab : Lib.TabIs Tryd.prog w powName .u64 Lib.pow10Tab) :
    Calls Tryd.prog 6 #[.slice a r.length cap, .agg #[.string s0, .int .i64 q, .string s2, .string s3, .string s4, .string s5, .string s6, .string s7, .string s8]] w fun e w' => e = .returned (.bool true) ∧ Below w.heap.size w w' := by
  go_enter Tryd.func6, Tryd.ntmps6
  go_wp2_with fail
  refine (bytesOne_yes a r.length cap s0 s2 s3 s4 s5 s6 s7 s8 q _ h).mono ?_
  rintro e w1 ⟨rfl, rfl⟩
  go_wp2_with fail
  refine (tooBig s0 s2 s3 s4 s5 s6 s7 s8 q _ (by omega) (by omega) (by omega) (by omega) (by omega) (by omega) (by omega) (by omega)).mono ?_
  rintro e w1 ⟨rfl, rfl⟩
  go_wp2_with fail
  refine (sealBytes s0 s2 s3 s4 s5 s6 s7 s8 q _ (by omega) (by omega) (by omega) (by omega) (by omega) (by omega) (by omega) (by omega)).mono ?_
  rintro e w1 ⟨rfl, rfl⟩
  go_wp2_with fail
  refine (cloneBytes a cap r _ (hrow.below (below4 w _ _ _ _)) (by omega)).mono ?_
  rintro e w1 ⟨v1, rfl, o1, b1⟩
  have hA1 : At w1 w.heap.size s0 s2 s3 s4 s5 s6 s7 s8 q := ((at_new w 25 s0 s2 s3 s4 s5 s6 s7 s8 q).below (below3 _ _ _ _) (by simp)).below b1 (by simp; omega)
  have hb1 : Below w.heap.size w w1 := (below4 w _ _ _ _).trans (b1.mono (by simp; omega))
  have hs1 : w.heap.size < w1.heap.size := Nat.lt_of_lt_of_le (by simp; omega) b1.size
  clear b1
  obtain ⟨p0, p1, p2, p3, p4, p5, p6, p7, p8⟩ := hA1
  go_wp2_with fail
  refine (toSeal s0 s2 s3 s4 s5 s6 s7 s8 q _).mono ?_
  rintro e w2 ⟨rfl, rfl⟩
  clear p0 p1 p2 p3 p4 p5 p6 p7 p8
  go_wp2_with fail
  have hA2 : At ((w1.alloc (.cells #[.string s0, .int .i64 q, .string s2, .string s3, .string s4, .string s5, .string s6, .string s7, .string s8] 25)).alloc (.cells #[.string s0, .int .i64 q, .string s2, .string s3, .string s4, .string s5, .string s6, .string s7, .string s8] 43)) (w1.heap.size + 1) s0 s2 s3 s4 s5 s6 s7 s8 q := by
    have := at_new (w1.alloc (.cells #[.string s0, .int .i64 q, .string s2, .string s3, .string s4, .string s5, .string s6, .string s7, .string s8] 25)) 43 s0 s2 s3 s4 s5 s6 s7 s8 q
    rwa [World.size_alloc] at this
  obtain ⟨p0, p1, p2, p3, p4, p5, p6, p7, p8⟩ := hA2
  have hb2 : Below w.heap.size w ((w1.alloc (.cells #[.string s0, .int .i64 q, .string s2, .string s3, .string s4, .string s5, .string s6, .string s7, .string s8] 25)).alloc (.cells #[.string s0, .int .i64 q, .string s2, .string s3, .string s4, .string s5, .string s6, .string s7, .string s8] 43)) := (hb1.alloc (by omega) _).alloc (by simp; omega) _
  refine (entryLine (w1.heap.size + 1) s0 s2 s3 s4 s5 s6 s7 s8 q _ hq0 hq1 (by simp) (by omega) (tab_below htab hb2) p0 p1 p2 p3 p4 p5 p6 p7 p8 ((o1.alloc _).alloc _) (by omega)).mono ?_
  clear p0 p1 p2 p3 p4 p5 p6 p7 p8
  rintro e w3 ⟨v3, rfl, o3, b3⟩
  have hb3 : Below w.heap.size w w3 := hb2.trans (b3.mono (by simp; omega))
  have oR := Owns.below ((o1.alloc (.cells #[.string s0, .int .i64 q, .string s2, .string s3, .string s4, .string s5, .string s6, .string s7, .string s8] 25)).alloc (.cells #[.string s0, .int .i64 q, .string s2, .string s3, .string s4, .string s5, .string s6, .string s7, .string s8] 43)) b3
  have hcount := Plain.entry_count r ⟨s0, q, s2, s3, s4, s5, s6, s7, s8⟩
  have hlen := entry_le r ⟨s0, q, s2, s3, s4, s5, s6, s7, s8⟩ (form_le _ hq0 hq1 (by show s0.size + s2.size + s3.size + s4.size + s5.size + s6.size + s7.size + s8.size ≤ 1048576; omega)) (by omega)
  obtain ⟨k, hk, h10⟩ := entry_last r ⟨s0, q, s2, s3, s4, s5, s6, s7, s8⟩
  generalize Plain.entry r ⟨s0, q, s2, s3, s4, s5, s6, s7, s8⟩ = E at o3 hcount hlen hk h10
  clear b3 hb2 hb1 htab hrow o1
  rcases ownsBytes o3 with ⟨_, hE⟩ | ⟨g, c3, hv3, _, _, _, _, hc3⟩
  · rw [hE] at hk; simp at hk
  have hck : w3.cell? ⟨g, k, none⟩ = some (.int .u8 10) := by
    rw [hc3 k (by omega), h10]
    rfl
  rw [hk] at hv3
  subst hv3
  clear hc3 h10
  have HC : Hid (E.count 10 = r.count 10 + 1) := hcount
  have hkb : k ≤ 10000000 := by omega
  have hrc : r.count 10 ≤ 1048576 := Nat.le_trans List.count_le_length (by omega)
  have n0 : (((k : Int) + 1) == 0) = false := beq_eq_false_iff_ne.2 (by omega)
  clear hcount hk
  go_wp2_with fail
  refine (countNewlines o3 (by omega)).mono ?_
  rintro e w4 ⟨rfl, rfl⟩
  go_wp2_with fail
  refine (countNewlines oR (by omega)).mono ?_
  rintro e w4 ⟨rfl, rfl⟩
  rw [HC.out]
  go_wp2
  go_ret
  exact ⟨rfl, hb3⟩
end Go.Proofs.Qxb6600084aDoor
