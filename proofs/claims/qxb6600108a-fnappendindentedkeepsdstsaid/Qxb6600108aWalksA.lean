/-
  The law's own small functions: the bound on lengths, two rows compared, a row copied.
-/
import Derived.Test.Qxb6600108aRows
import Derived.Test.Qxb6600108aPlain
import Derived.WalkKit
import Derived.WalkLawsBesides
import Derived.WalkSpells
import Derived.Outline
import Derived.Lib.FrozenHead
import Derived.OwnWalk
import Derived.BigQuiet
import Derived.Deep.QuietTactic
import Derived.Laws.OwnMore
import Derived.Laws.CopyOwn
namespace Go.Proofs.Qxb6600108a
open Go.RowKit

theorem ret_bool {a b : Bool} (h : a = b) : Ending.returned (.bool a) = .returned (.bool b) := by rw [h]

/-- n bytes l are read at a. -/
def Reads (w : World) (a : Option Addr) (n : Nat) (l : List UInt8) : Prop :=
  n = l.length ∧ (l = [] ∨ ∃ g off, a = some ⟨g, off, none⟩ ∧ g < w.heap.size ∧ ∀ j (hj : j < l.length), w.cell? ⟨g, off + j, none⟩ = some (.int .u8 (l[j].toNat : Int)))

/-- A slice value of bytes: nil; or a row's head. -/
def View (w : World) (a : Option Addr) (n c : Nat) (l : List UInt8) : Prop :=
  n = l.length ∧ ((a = none ∧ n = 0 ∧ c = 0) ∨ ∃ g, a = some ⟨g, 0, none⟩ ∧ n ≤ c ∧ c ≤ maxLen ∧ g < w.heap.size ∧ ∀ j (hj : j < l.length), w.cell? ⟨g, j, none⟩ = some (.int .u8 (l[j].toNat : Int)))

theorem Reads.below {w w' : World} {a : Option Addr} {n : Nat} {l : List UInt8} (h : Reads w a n l) (hb : Below w.heap.size w w') : Reads w' a n l := by
  obtain ⟨hn, h | ⟨g, off, ha, hg, hc⟩⟩ := h
  · exact ⟨hn, .inl h⟩
  · exact ⟨hn, .inr ⟨g, off, ha, Nat.lt_of_lt_of_le hg hb.size, fun j hj => (hb.cell (by exact hg)).trans (hc j hj)⟩⟩

theorem View.below {w w' : World} {a : Option Addr} {n c : Nat} {l : List UInt8} (h : View w a n c l) (hb : Below w.heap.size w w') : View w' a n c l := by
  obtain ⟨hn, h | ⟨g, ha, h1, h2, hg, hc⟩⟩ := h
  · exact ⟨hn, .inl h⟩
  · exact ⟨hn, .inr ⟨g, ha, h1, h2, Nat.lt_of_lt_of_le hg hb.size, fun j hj => (hb.cell (by exact hg)).trans (hc j hj)⟩⟩

theorem View.reads {w : World} {a : Option Addr} {n c : Nat} {l : List UInt8} (h : View w a n c l) : Reads w a n l := by
  obtain ⟨hn, ⟨_, h0, _⟩ | ⟨g, ha, _, _, hg, hc⟩⟩ := h
  · exact ⟨hn, .inl (List.eq_nil_of_length_eq_zero (by omega))⟩
  · exact ⟨hn, .inr ⟨g, 0, ha, hg, fun j hj => by rw [Nat.zero_add]; exact hc j hj⟩⟩

theorem below_drewN (w : World) (k : Nat) (B : Nat) : Below B w (w.drewN k) := ⟨rfl, rfl, rfl, Nat.le_refl _, fun _ _ => rfl⟩

/-! ### the bound on lengths -/
set_option maxHeartbeats 400000 in
theorem bytes_yes (a b : Option Addr) (n m c d : Nat) (s : ByteArray) (w : World) (h : n + m + s.size ≤ 1048576) :
    Calls Try.prog 16 #[.slice a n c, .slice b m d, .string s] w fun e w' => e = .returned (.bool true) ∧ w' = w := by
  go_enter Try.func16, Try.ntmps16
  go_wp2
  go_ret
  exact ⟨rfl, rfl⟩

set_option maxHeartbeats 400000 in
theorem bytes_no (a b : Option Addr) (n m c d : Nat) (s : ByteArray) (w : World) (h : ¬ n + m + s.size ≤ 1048576) :
    Calls Try.prog 16 #[.slice a n c, .slice b m d, .string s] w fun e w' => e = .returned (.bool false) ∧ w' = w := by
  go_enter Try.func16, Try.ntmps16
  go_wp2
  all_goals
    go_ret
    exact ⟨rfl, rfl⟩

/-! ### Two rows compared -/
theorem same_short (a1 a2 : Option Addr) (n1 n2 c1 c2 : Nat) (w : World) (h : n1 ≠ n2) :
    Calls Try.prog 14 #[.slice a1 n1 c1, .slice a2 n2 c2] w fun e w' => e = .returned (.bool false) ∧ w' = w := by
  have hb : ((n1 : Int) != (n2 : Int)) = true := by rw [bne_iff_ne]; omega
  go_enter Try.func14, Try.ntmps14
  go_wp2
  go_ret
  exact ⟨rfl, rfl⟩

theorem same_empty (a1 a2 : Option Addr) (c1 c2 : Nat) (w : World) :
    Calls Try.prog 14 #[.slice a1 0 c1, .slice a2 0 c2] w fun e w' => e = .returned (.bool true) ∧ w' = w := by
  go_enter Try.func14, Try.ntmps14
  go_wp2
  refine wp_loop_rounds 1 ?_
  rw [rounds_succ]
  go_wp2
  go_ret
  exact ⟨rfl, rfl⟩

theorem eqb_no {l m : List UInt8} (k : Nat) (h1 : k < l.length) (h2 : k < m.length) (h : (l[k].toNat : Int) ≠ (m[k].toNat : Int)) : (l == m) = false := by
  rw [beq_eq_false_iff_ne]
  rintro rfl
  exact h rfl

theorem eqb_yes {l m : List UInt8} (hl : l.length = m.length) (H : Hid (∀ j (h1 : j < l.length) (h2 : j < m.length), l[j] = m[j])) : (l == m) = true := by
  rw [beq_iff_eq]
  exact List.ext_getElem hl fun j h1 h2 => H.out j h1 h2

theorem eqb_next {l m : List UInt8} (k : Nat) (H : Hid (∀ j, j < k → ∀ (h1 : j < l.length) (h2 : j < m.length), l[j] = m[j])) (h1 : k < l.length) (h2 : k < m.length) (h : (l[k].toNat : Int) = (m[k].toNat : Int)) : ∀ j, j < k + 1 → ∀ (h1 : j < l.length) (h2 : j < m.length), l[j] = m[j] := by
  intro j hj i1 i2
  by_cases hjk : j = k
  · subst hjk; exact UInt8.toNat_inj.1 (by omega)
  · exact H.out j (by omega) i1 i2

set_option maxHeartbeats 400000 in
theorem same_row (g1 g2 p1 p2 c1 c2 : Nat) (l m : List UInt8) (w : World) (hlm : l.length = m.length) (hl : l.length ≤ 1000000000000)
    (hc1 : ∀ j (hj : j < l.length), w.cell? ⟨g1, p1 + j, none⟩ = some (.int .u8 (l[j].toNat : Int))) (hc2 : ∀ j (hj : j < m.length), w.cell? ⟨g2, p2 + j, none⟩ = some (.int .u8 (m[j].toNat : Int))) :
    Calls Try.prog 14 #[.slice (some ⟨g1, p1, none⟩) l.length c1, .slice (some ⟨g2, p2, none⟩) m.length c2] w fun e w' => e = .returned (.bool (l == m)) ∧ ∃ n, w' = w.drewN n := by
  have hb : ((l.length : Int) != (m.length : Int)) = false := by rw [hlm]; simp
  have HL : Hid (l.length = m.length) := hlm
  have hle : l.length ≤ m.length := by omega
  clear hlm
  go_enter Try.func14, Try.ntmps14
  go_wp2
  go_loopw [5] (fun i wr => ∃ k : Nat, k ≤ l.length ∧ i = .int .i64 k ∧ (∃ n, wr = w.drewN n) ∧ ∀ j, j < k → ∀ (h1 : j < l.length) (h2 : j < m.length), l[j] = m[j]) (fun i _ => l.length - (intOf i).toNat)
  case atStart => exact ⟨0, Nat.zero_le _, rfl, ⟨0, rfl⟩, fun j hj => by omega⟩
  case round =>
    obtain ⟨k, hk, rfl, ⟨nd, rfl⟩, hall⟩ := hrel
    have H : Hid (∀ j, j < k → ∀ (h1 : j < l.length) (h2 : j < m.length), l[j] = m[j]) := hall
    clear hall
    by_cases hlt : k < l.length
    · have hck1 := hc1 k hlt
      have hlt2 : k < m.length := by omega
      have hck2 := hc2 k hlt2
      have i1 : (k : Int) < (l.length : Int) := by omega
      have i2 : (k : Int) < (m.length : Int) := by omega
      by_cases he : (l[k].toNat : Int) = (m[k].toNat : Int)
      · have hb2 : ((l[k].toNat : Int) != (m[k].toNat : Int)) = false := by rw [he]; simp
        have HE : Hid ((l[k].toNat : Int) = (m[k].toNat : Int)) := he
        clear he
        go_wp2
        go_quiet (fail)
        go_wp2
        go_roundw
        case rel => exact ⟨k + 1, by omega, by go_num, ⟨_, rfl⟩, eqb_next k H hlt hlt2 HE.out⟩
        case measure => simp [intOf]; omega
      · have hb2 : ((l[k].toNat : Int) != (m[k].toNat : Int)) = true := by rw [bne_iff_ne]; exact he
        go_wp2
        go_quiet (fail)
        go_wp2
        go_ret
        exact ⟨ret_bool (eqb_no k hlt hlt2 he).symm, ⟨nd + nq, by rw [World.drewN_drewN]⟩⟩
    · go_wp2
      go_ret
      exact ⟨ret_bool (eqb_yes HL.out (fun j h1 h2 => H.out j (by omega) h1 h2)).symm, ⟨nd, rfl⟩⟩

theorem sameBytes {a1 a2 : Option Addr} {n1 n2 c1 c2 : Nat} {l m : List UInt8} {w : World} (h1 : Reads w a1 n1 l) (h2 : Reads w a2 n2 m) (b1 : l.length ≤ 1000000000000) :
    Calls Try.prog 14 #[.slice a1 n1 c1, .slice a2 n2 c2] w fun e w' => e = .returned (.bool (l == m)) ∧ ∃ n, w' = w.drewN n := by
  have same : ∀ (e : Ending) (w' : World) (b : Bool), (e = .returned (.bool b) ∧ w' = w) → b = (l == m) → e = .returned (.bool (l == m)) ∧ ∃ n, w' = w.drewN n := by
    rintro e w' b ⟨rfl, rfl⟩ rfl
    exact ⟨rfl, 0, rfl⟩
  obtain ⟨rfl, h1⟩ := h1
  obtain ⟨rfl, h2⟩ := h2
  by_cases hlm : l.length = m.length
  · by_cases h0 : l = []
    · subst h0
      obtain rfl : m = [] := List.eq_nil_of_length_eq_zero (by rw [← hlm]; rfl)
      exact (same_empty a1 a2 c1 c2 w).mono fun e w' h => same e w' true h rfl
    · rcases h1 with h | ⟨g1, p1, rfl, _, hc1⟩
      · exact absurd h h0
      rcases h2 with h | ⟨g2, p2, rfl, _, hc2⟩
      · subst h
        exact absurd (List.eq_nil_of_length_eq_zero hlm) h0
      exact same_row g1 g2 p1 p2 c1 c2 l m w hlm b1 hc1 hc2
  · refine (same_short a1 a2 l.length m.length c1 c2 w hlm).mono fun e w' h => same e w' false h ?_
    symm
    rw [beq_eq_false_iff_ne]
    rintro rfl
    exact hlm rfl

/-! ### A row copied -/
theorem info5 : (Try.prog.info? 5).map (fun i => (i.zero, i.size, i.bytes)) = some (some (.int .u8 0), 1, 1) := by kernel_rfl
theorem size5 : (Try.prog.info? 5).map (·.size) = some 1 := by kernel_rfl

theorem clone_nil (w : World) : Calls Try.prog 12 #[.slice none 0 0] w fun e w' => e = .returned (.slice none 0 0) ∧ w' = w := by
  have hn := fun w => Lib.run_eql_slice_nil (P := Try.prog) w 22 5 none 0 0 0 0 Try.underlying22
  go_enter Try.func12, Try.ntmps12
  go_wp2
  go_ret
  exact ⟨rfl, rfl⟩

set_option maxHeartbeats 800000 in
theorem clone_some (x : Addr) (cap n : Nat) (l : List UInt8) (w : World) (hn : n = l.length) (hl : n ≤ 1048576)
    (hc : 0 < l.length → ∀ j (hj : j < l.length), w.cell? (x.add j) = some (.int .u8 (l[j].toNat : Int))) :
    Calls Try.prog 12 #[.slice (some x) n cap] w fun e w' => e = .returned (.slice (some ⟨w.heap.size, 0, none⟩) n n) ∧ (∃ cs, w'.heap[w.heap.size]? = some (.cells cs 5 (0, 0)) ∧ cs.toList = Lib.byteCells l) ∧ Below w.heap.size w w' := by
  obtain ⟨i0, hi, hz0, hz1, hz2⟩ := info_parts info5
  have hne := fun w => Lib.run_eql_slice_nil (P := Try.prog) w 22 5 (some x) n cap 0 0 Try.underlying22
  have HC : Hid (0 < l.length → ∀ j (hj : j < l.length), w.cell? (x.add j) = some (.int .u8 (l[j].toNat : Int))) := hc
  have HN : Hid (n = l.length) := hn
  clear hc hn
  go_enter Try.func12, Try.ntmps12
  go_wp2_with (at_make; refine wpList_make_full _ rfl _ _ 22 rfl w.heap.size 5 i0 (.int .u8 0) 1 Try.underlying22 hi hz0 hz1 .i64 .i64 _ _ n rfl rfl rfl rfl (by rw [hz2]; omega) (by unfold maxLen; omega) (Nat.le_refl _) ?_)
  intro w1 hown hgrow
  have hb1 : Below w.heap.size w w1 := (Below.refl _ _).grown hgrow (Nat.le_refl _) (by intro k hk; cases hk)
  obtain ⟨cur, hg, hsz⟩ : ∃ cur : List Value, w1.heap[w.heap.size]? = some (.cells cur.toArray 5 (0, 0)) ∧ cur.length = n := by
    rcases hown.2 with ⟨h, _⟩ | ⟨g, c, cur, h1, _, h3, _, _, h6, _⟩
    · cases h
    · simp only [Value.slice.injEq, Option.some.injEq, Addr.mk.injEq, and_true, true_and] at h1
      obtain ⟨rfl, rfl⟩ := h1
      exact ⟨cur.toList, by simpa using h3, by simpa using h6⟩
  clear hown hgrow
  have hsrc : ∀ j v, (Lib.byteCells l)[j]? = some v → w1.cell? (x.add j) = some v := by
    intro j v hj
    have hl : j < l.length := by
      have := (List.getElem?_eq_some_iff.1 hj).1
      simpa [Lib.byteCells] using this
    have h0 := HC.out (by omega) j hl
    have hlt : (x.add j).block < w.heap.size := World.block_lt_of_cell? w _ h0
    rw [hb1.cell hlt, h0]
    simp [Lib.byteCells, hl] at hj
    rw [← hj]
  have HS : Hid (∀ j v, (Lib.byteCells l)[j]? = some v → w1.cell? (x.add j) = some v) := hsrc
  have HG : Hid (w1.heap[w.heap.size]? = some (.cells cur.toArray 5 (0, 0))) := hg
  have HZ : Hid (cur.length = n) := hsz
  clear hsrc hg hsz
  go_wp2_with (refine wpList_copy_splice rfl (.tmp 9) (.tmp 10) 22 22 rfl 5 Try.underlying22 size5 (some ⟨w.heap.size, 0, none⟩) (some x) n n n cap rfl rfl w.heap.size 0 cur 5 HG.out (Lib.byteCells l) (by rw [Lib.byteCells_length, HN.out]; exact (Nat.min_self _).symm) (fun _ => ⟨rfl, x, rfl, HS.out⟩) (by rw [HZ.out, Lib.byteCells_length, HN.out]; omega) (by intro u hu; simp only [Lib.byteCells, List.mem_map] at hu; obtain ⟨b, _, rfl⟩ := hu; rfl) w.heap.size w hb1 (Nat.le_refl _) ?_)
  intro w2 hg2 hb2
  go_wp2
  go_ret
  refine ⟨rfl, ⟨_, hg2.out, ?_⟩, hb2⟩
  have e : (Lib.byteCells l).length = cur.length := by rw [Lib.byteCells_length, HZ.out, HN.out]
  simp [splice, e]

/-- cloneBytes of a slice that came in. -/
theorem cloneBytes (a : Option Addr) (n cap : Nat) (l : List UInt8) (w : World) (h : Reads w a n l) (h0 : a = none → cap = 0 ∧ l = []) (hl : n ≤ 1048576) :
    Calls Try.prog 12 #[.slice a n cap] w fun e w' => ∃ a', e = .returned (.slice a' n n) ∧ View w' a' n n l ∧ Below w.heap.size w w' := by
  obtain ⟨hn, h⟩ := h
  cases a with
  | none =>
    obtain ⟨rfl, rfl⟩ := h0 rfl
    obtain rfl : n = 0 := hn
    refine (clone_nil w).mono ?_
    rintro e w' ⟨rfl, rfl⟩
    exact ⟨none, rfl, ⟨rfl, .inl ⟨rfl, rfl, rfl⟩⟩, Below.refl _ _⟩
  | some x =>
    refine (clone_some x cap n l w hn hl ?_).mono ?_
    · intro hp j hj
      rcases h with h | ⟨g, off, ha, _, hc⟩
      · rw [h] at hp; simp at hp
      · cases ha
        have hadd : (⟨g, off, none⟩ : Addr).add j = ⟨g, off + j, none⟩ := by unfold Addr.add; split <;> simp_all
        rw [hadd]
        exact hc j hj
    · rintro e w' ⟨rfl, ⟨cs, hg, hcs⟩, hb⟩
      refine ⟨_, rfl, ⟨hn, .inr ⟨w.heap.size, rfl, Nat.le_refl _, by unfold maxLen; omega, (Array.getElem?_eq_some_iff.1 hg).1, fun j hj => ?_⟩⟩, hb⟩
      rw [cell_of_row w' w.heap.size j cs 5 (0, 0) hg, ← Array.getElem?_toList, hcs]
      simp [Lib.byteCells, hj]
end Go.Proofs.Qxb6600108a
