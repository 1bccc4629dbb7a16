/-
  The law FnAppendIndentedKeepsDst: the walk.
-/
import Derived.Test.Qxb6600108aWalksD
namespace Go.Proofs.Qxb6600108a
open Go.RowKit

/-- compact empty: dst comes back as it is. -/
theorem indented_empty (ca : Option Addr) (cc : Nat) (a : Option Addr) (n c : Nat) (l : List UInt8) (pre : ByteArray) (w : World) (hdst : Held w.heap.size w a n c l) (hl : l.length ≤ 1000000) :
    Calls Try.prog 28 #[.slice a n c, .slice ca 0 cc, .string pre] w fun e w' =>
      ∃ a' n' c', e = .returned (.slice a' n' c') ∧ View w' a' n' c' (l ++ []) ∧ ([] : List UInt8).length ≤ 200000000 ∧ Below w.heap.size w w' := by
  have hmf : ∀ (fn : Fn) (first cap : Array Value) (w : World), (Instr.makeFunc fn first cap).run Try.prog w = .ok (.func fn first cap) w := fun _ _ _ _ => rfl
  have hv : Hid (View ((w.alloc (.cells #[.slice a n c] 22)).alloc (.cells #[.string pre] 9)) a n c (l ++ [])) := by
    rw [List.append_nil]
    exact ((hdst.alloc _).alloc _).view (by simp; omega) (by omega)
  clear hdst
  go_enter Try.func28, Try.ntmps28
  go_wp2
  refine wp_loop_rounds 1 ?_
  rw [rounds_succ]
  go_wp2
  go_ret
  exact ⟨a, n, c, rfl, hv.out, by decide, ((Below.refl _ _).alloc (Nat.le_refl _) _).alloc (by simp) _⟩

theorem View.isNil {w : World} {a : Option Addr} {n : Nat} {l : List UInt8} (h : View w a n n l) (ha : a = none) : n = 0 ∧ l = [] := by
  obtain ⟨hn, ⟨_, h0, _⟩ | ⟨g, h1, _⟩⟩ := h
  · exact ⟨h0, List.eq_nil_of_length_eq_zero (by omega)⟩
  · rw [ha] at h1; cases h1

/-- A slice that fits itself, as appendIndented takes it. -/
theorem View.held {w : World} {a : Option Addr} {n : Nat} {l : List UInt8} (h : View w a n n l) : Held w.heap.size w a n n l := by
  obtain ⟨hn, ⟨rfl, rfl, _⟩ | ⟨g, ha, _, _, hg, hc⟩⟩ := h
  · refine ⟨hn, .inl ?_⟩
    obtain rfl : l = [] := List.eq_nil_of_length_eq_zero hn.symm
    exact World.ownsRow_nil _ _ _ _
  · exact ⟨hn, .inr ⟨g, ha, rfl, hg, hc⟩⟩

theorem indented (ca : Option Addr) (cn cc : Nat) (cl : List UInt8) (a : Option Addr) (n : Nat) (l : List UInt8) (pre : ByteArray) (w : World) (hc : View w ca cn cc cl) (hd : View w a n n l) (hcl : cl.length ≤ 4096) (hpre : pre.size ≤ 4096) (hl : l.length ≤ 1000000) (hgood : Plain.good cl cl.length 0) :
    Calls Try.prog 28 #[.slice a n n, .slice ca cn cc, .string pre] w fun e w' =>
      ∃ a' n' c', e = .returned (.slice a' n' c') ∧ View w' a' n' c' (l ++ Plain.rest cl (bs pre) cl.length 0 0 false) ∧ (Plain.rest cl (bs pre) cl.length 0 0 false).length ≤ 200000000 ∧ Below w.heap.size w w' := by
  by_cases h0 : cl = []
  · subst h0
    obtain rfl : cn = 0 := hc.1
    exact indented_empty ca cc a n n l pre w hd.held hl
  · obtain ⟨rfl, ⟨_, h1, _⟩ | ⟨g, rfl, h2, _, h4, h5⟩⟩ := hc
    · exact absurd (List.eq_nil_of_length_eq_zero h1) h0
    · exact indented_row g cc cl a n n l pre w h4 h2 hcl hpre hl h5 hgood hd.held

/-- ZZAppendIndented. -/
theorem zzIndented (ca : Option Addr) (cn cc : Nat) (cl : List UInt8) (a : Option Addr) (n : Nat) (l : List UInt8) (pre : ByteArray) (w : World) (hc : View w ca cn cc cl) (hd : View w a n n l) (hcl : cl.length ≤ 4096) (hpre : pre.size ≤ 4096) (hl : l.length ≤ 1000000) (hgood : Plain.good cl cl.length 0) :
    Calls Try.prog 13 #[.slice a n n, .slice ca cn cc, .string pre] w fun e w' =>
      ∃ a' n' c', e = .returned (.slice a' n' c') ∧ View w' a' n' c' (l ++ Plain.rest cl (bs pre) cl.length 0 0 false) ∧ (Plain.rest cl (bs pre) cl.length 0 0 false).length ≤ 200000000 ∧ Below w.heap.size w w' := by
  go_enter Try.func13, Try.ntmps13
  go_wp2_with (go_at_call 28; refine (indented ca cn cc cl a n l pre w hc hd hcl hpre hl hgood).mono ?_; rintro e w1 ⟨a1, n1, c1, rfl, hv, hlen, hb⟩)
  go_ret
  exact ⟨a1, n1, c1, rfl, hv, hlen, hb⟩

theorem View.front {w : World} {g n5 c5 n : Nat} {l T : List UInt8} (h : View w (some ⟨g, 0, none⟩) n5 c5 (l ++ T)) (hn : n = l.length) : Reads w (some ⟨g, 0, none⟩) n l := by
  obtain ⟨_, ⟨h0, _⟩ | ⟨g', ha, _, _, hg, hc⟩⟩ := h
  · cases h0
  · cases ha
    refine ⟨hn, .inr ⟨g, 0, rfl, hg, fun j hj => ?_⟩⟩
    rw [Nat.zero_add, hc j (by rw [List.length_append]; omega), List.getElem_append_left hj]

theorem View.back {w : World} {g n5 c5 n : Nat} {l T : List UInt8} (h : View w (some ⟨g, 0, none⟩) n5 c5 (l ++ T)) (hn : n = l.length) : Reads w (some ⟨g, n, none⟩) (n5 - n) T := by
  obtain ⟨h5, ⟨h0, _⟩ | ⟨g', ha, _, _, hg, hc⟩⟩ := h
  · cases h0
  · cases ha
    subst hn
    rw [List.length_append] at h5
    refine ⟨by omega, .inr ⟨g, l.length, rfl, hg, fun j hj => ?_⟩⟩
    rw [hc (l.length + j) (by rw [List.length_append]; omega), List.getElem_append_right (by omega)]
    simp

set_option maxHeartbeats 800000 in
theorem law_big (a b : Option Addr) (n m c d : Nat) (s : ByteArray) (w : World) (h : ¬ n + m + s.size ≤ 1048576) :
    Calls Try.prog 4 #[.slice a n c, .slice b m d, .string s] w fun e w' => e = .returned (.bool true) ∧ Below w.heap.size w w' := by
  go_enter Try.func4, Try.ntmps4
  go_wp2_with (go_at_call 16; refine (bytes_no a b n m c d s w h).mono ?_; rintro e w1 ⟨rfl, rfl⟩)
  go_ret
  exact ⟨rfl, Below.refl _ _⟩

set_option maxHeartbeats 800000 in
theorem law_long (a b : Option Addr) (n m c d : Nat) (s : ByteArray) (w : World) (h : n + m + s.size ≤ 1048576) (h1 : ¬ (n ≤ 524288 ∧ m ≤ 4096 ∧ s.size ≤ 4096)) :
    Calls Try.prog 4 #[.slice a n c, .slice b m d, .string s] w fun e w' => e = .returned (.bool true) ∧ Below w.heap.size w w' := by
  by_cases q1 : n ≤ 524288 <;> by_cases q2 : m ≤ 4096 <;> by_cases q3 : s.size ≤ 4096 <;> try (exfalso; omega)
  all_goals
    go_enter Try.func4, Try.ntmps4
    go_wp2_with (go_at_call 16; refine (bytes_yes a b n m c d s w h).mono ?_; rintro e w1 ⟨rfl, rfl⟩)
    go_ret
    exact ⟨rfl, Below.refl _ _⟩

set_option maxHeartbeats 3200000 in
theorem law_small (a b : Option Addr) (n m c d : Nat) (s : ByteArray) (l cl : List UInt8) (w : World) (h : n + m + s.size ≤ 1048576) (h1 : n ≤ 524288) (h2 : m ≤ 4096) (h3 : s.size ≤ 4096)
    (hl : Reads w a n l) (hcl : Reads w b m cl) (ha : a = none → c = 0 ∧ l = []) (hb : b = none → d = 0 ∧ cl = []) :
    Calls Try.prog 4 #[.slice a n c, .slice b m d, .string s] w fun e w' => e = .returned (.bool true) ∧ Below w.heap.size w w' := by
  go_enter Try.func4, Try.ntmps4
  go_wp2_with fail
  refine (bytes_yes a b n m c d s w h).mono ?_
  rintro e w1 ⟨rfl, rfl⟩
  go_wp2_with fail
  refine (scan b m d cl _ hcl (by omega)).mono ?_
  rintro e w1 ⟨rfl | ⟨rfl, hgood⟩, rfl⟩
  · go_wp2
    go_ret
    exact ⟨rfl, Below.refl _ _⟩
  go_wp2_with fail
  refine (cloneBytes a n c l _ hl ha (by omega)).mono ?_
  rintro e w2 ⟨a2, rfl, v2, b2⟩
  have r3 := hcl.below b2
  go_wp2_with fail
  refine (cloneBytes b m d cl _ r3 hb (by omega)).mono ?_
  rintro e w3 ⟨a3, rfl, v3, b3⟩
  have v23 := v2.below b3
  go_wp2_with fail
  refine (cloneBytes a2 n n l _ v23.reads v23.isNil (by omega)).mono ?_
  rintro e w4 ⟨a4, rfl, v4, b4⟩
  have v24 := v23.below b4
  have v34 := v3.below b4
  have LL : Hid (n = l.length) := v2.1
  have ll1 : l.length ≤ 524288 := by rw [← v2.1]; exact h1
  have cl1 : cl.length ≤ 4096 := by rw [← v3.1]; exact h2
  go_wp2_with fail
  refine (zzIndented a3 m m cl a2 n l s _ v34 v24 (by omega) h3 (by omega) hgood).mono ?_
  rintro e w5 ⟨a5, n5, c5, rfl, v5, hlen, b5⟩
  have v35 := v34.below b5
  have v45 := v4.below b5
  go_wp2_with fail
  refine (zzIndented a3 m m cl none 0 [] s _ v35 ⟨rfl, .inl ⟨rfl, rfl, rfl⟩⟩ (by omega) h3 (by simp) hgood).mono ?_
  rintro e w6 ⟨a6, n6, c6, rfl, v6, _, b6⟩
  have v46 := v45.below b6
  have v56 := v5.below b6
  have B6 : Hid (Below w1.heap.size w1 w6) := (((b2.trans (b3.mono b2.size)).trans (b4.mono (Nat.le_trans b2.size b3.size))).trans (b5.mono (Nat.le_trans b2.size (Nat.le_trans b3.size b4.size)))).trans (b6.mono (Nat.le_trans b2.size (Nat.le_trans b3.size (Nat.le_trans b4.size b5.size))))
  generalize Plain.rest cl (bs s) cl.length 0 0 false = T at v6 v56 hlen
  rw [List.nil_append] at v6
  clear v2 b2 r3 v3 b3 v23 v4 b4 v24 v34 v5 b5 v35 v45 b6 hgood hl hcl ha hb
  have V4 : Hid (View w6 a4 n n l) := v46
  have V5 : Hid (View w6 a5 n5 c5 (l ++ T)) := v56
  have V6 : Hid (View w6 a6 n6 c6 T) := v6
  have k1 : n5 = n + n6 := by rw [v56.1, v6.1, List.length_append, ← LL.out]
  have k2 : n6 ≤ 200000000 := by rw [v6.1]; exact hlen
  have K1 : Hid (n5 = n + n6) := k1
  have t1 : ((n5 : Int) != (n : Int) + (n6 : Int)) = false := by rw [k1]; simp
  have i1 : (n : Int) ≤ (c5 : Int) := by
    obtain ⟨_, ⟨_, _, hc⟩ | ⟨g, _, hc, _⟩⟩ := v56 <;> omega
  have i2 : (n : Int) ≤ (n5 : Int) := by omega
  clear v46 v56 v6 k1
  rcases V5.out.2 with ⟨z1, z2, z3⟩ | ⟨g, rfl, y1, y2, y3, y4⟩
  · have q0 : n = 0 := by have := K1.out; omega
    have q6 : n6 = 0 := by have := K1.out; omega
    have hl0 : l = [] := List.eq_nil_of_length_eq_zero (by rw [← LL.out]; exact q0)
    have hT0 : T = [] := List.eq_nil_of_length_eq_zero (by rw [← V6.out.1]; exact q6)
    subst z1 z2 z3 q0 q6 hl0 hT0
    clear K1 LL V5 t1
    go_wp2_with fail
    refine (sameBytes (l := []) (m := []) ⟨rfl, .inl rfl⟩ V4.out.reads (by simp)).mono ?_
    rintro e w7 ⟨rfl, n7, rfl⟩
    go_wp2_with fail
    refine (sameBytes (l := []) (m := []) ⟨rfl, .inl rfl⟩ (V6.out.reads.below (below_drewN w6 n7 _)) (by simp)).mono ?_
    rintro e w8 ⟨rfl, n8, rfl⟩
    go_wp2
    go_ret
    exact ⟨rfl, B6.out.trans (below_drewN w6 (n7 + n8) _)⟩
  · have R1 : Hid (Reads w6 (some ⟨g, 0, none⟩) n l) := V5.out.front LL.out
    have R2 : Hid (Reads w6 (some ⟨g, n, none⟩) (n5 - n) T) := V5.out.back LL.out
    clear V5 y4
    have e1 : (l == l) = true := by simp
    have e2 : (T == T) = true := by simp
    have y2' : c5 ≤ 9223372036854775807 := y2
    clear y2
    by_cases hcn : c5 = n
    · have h6 : n6 = 0 := by have := K1.out; omega
      have hT : T = [] := List.eq_nil_of_length_eq_zero (by rw [← V6.out.1]; exact h6)
      have HT : Hid (T = []) := hT
      clear h6 hT
      subst hcn
      go_wp2_with fail
      refine (sameBytes R1.out V4.out.reads (by omega)).mono ?_
      rintro e w7 ⟨rfl, n7, rfl⟩
      rw [e1]
      go_wp2_with fail
      refine (sameBytes (l := []) (m := T) ⟨rfl, .inl rfl⟩ (V6.out.reads.below (below_drewN w6 n7 _)) (by simp)).mono ?_
      rintro e w8 ⟨rfl, n8, rfl⟩
      have e3 : (([] : List UInt8) == T) = true := by rw [HT.out]; rfl
      rw [e3]
      go_wp2
      go_ret
      exact ⟨rfl, B6.out.trans (below_drewN w6 (n7 + n8) _)⟩
    · go_wp2_with fail
      refine (sameBytes R1.out V4.out.reads (by omega)).mono ?_
      rintro e w7 ⟨rfl, n7, rfl⟩
      rw [e1]
      go_wp2_with fail
      refine (sameBytes (R2.out.below (below_drewN w6 n7 _)) (V6.out.reads.below (below_drewN w6 n7 _)) (by omega)).mono ?_
      rintro e w8 ⟨rfl, n8, rfl⟩
      rw [e2]
      go_wp2
      go_ret
      exact ⟨rfl, B6.out.trans (below_drewN w6 (n7 + n8) _)⟩

theorem law (a b : Option Addr) (n m c d : Nat) (s : ByteArray) (l cl : List UInt8) (w : World) (hl : Reads w a n l) (hcl : Reads w b m cl) (ha : a = none → c = 0 ∧ l = []) (hb : b = none → d = 0 ∧ cl = []) :
    Calls Try.prog 4 #[.slice a n c, .slice b m d, .string s] w fun e w' => e = .returned (.bool true) ∧ Below w.heap.size w w' := by
  by_cases h : n + m + s.size ≤ 1048576
  · by_cases h1 : n ≤ 524288 ∧ m ≤ 4096 ∧ s.size ≤ 4096
    · exact law_small a b n m c d s l cl w h h1.1 h1.2.1 h1.2.2 hl hcl ha hb
    · exact law_long a b n m c d s w h h1
  · exact law_big a b n m c d s w h
end Go.Proofs.Qxb6600108a
