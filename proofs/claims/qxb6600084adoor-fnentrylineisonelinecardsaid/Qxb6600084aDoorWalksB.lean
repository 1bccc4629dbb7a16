/-
  The law's own loops over bytes: counting, cloning, comparing.
-/
import Derived.Test.Qxb6600084aDoorWalksA
import Derived.Lib.FrozenHead
import Derived.OwnWalk
import Derived.BigQuiet
import Derived.Deep.QuietTactic
import Derived.Laws.OwnMore
namespace Go.Proofs.Qxb6600084aDoor
open Go.RowKit

/-- A slice that owns the bytes l: nil and none, or a row whose cells are they. -/
theorem ownsBytes {w : World} {B : Nat} {v : Value} {l : List UInt8} (h : w.ownsRow B 5 1 v l.length (Lib.byteCells l)) :
    (v = .slice none 0 0 ∧ l = []) ∨ ∃ g cap, v = .slice (some ⟨g, 0, none⟩) l.length cap ∧ B ≤ g ∧ g < w.heap.size ∧ l.length ≤ cap ∧ cap ≤ maxLen ∧ ∀ j (hj : j < l.length), w.cell? ⟨g, j, none⟩ = some (.int .u8 (l[j].toNat : Int)) := by
  rcases h.2 with ⟨rfl, h0⟩ | ⟨g, cap, cur, rfl, hb, hg, hn, hm, _⟩
  · exact .inl ⟨rfl, List.eq_nil_of_length_eq_zero h0⟩
  · refine .inr ⟨g, cap, rfl, hb, (Array.getElem?_eq_some_iff.1 hg).1, hn, hm, fun j hj => ?_⟩
    rw [h.cellAt j (by omega)]
    simp [Lib.byteCells, hj]

theorem count_snoc (l : List UInt8) (k : Nat) (h : k < l.length) : (l.take (k + 1)).count 10 = (l.take k).count 10 + if (l[k].toNat : Int) = 10 then 1 else 0 := by
  rw [List.take_succ_eq_append_getElem h, List.count_append]
  congr 1
  have : l[k] = 10 ↔ (l[k].toNat : Int) = 10 := by
    rw [← UInt8.toNat_inj]
    simp
    omega
  simp [List.count_cons, this]

set_option maxHeartbeats 400000 in
theorem count_row (g cap : Nat) (l : List UInt8) (w : World) (hl : l.length ≤ 1000000000000) (hc : ∀ j (hj : j < l.length), w.cell? ⟨g, j, none⟩ = some (.int .u8 (l[j].toNat : Int))) :
    Calls Tryd.prog 22 #[.slice (some ⟨g, 0, none⟩) l.length cap] w fun e w' => e = .returned (.int .i64 (l.count 10 : Nat)) ∧ w' = w := by
  go_enter Tryd.func22, Tryd.ntmps22
  go_wp2
  go_loop [3, 4] (fun n i => ∃ k : Nat, k ≤ l.length ∧ i = .int .i64 k ∧ n = .int .i64 ((l.take k).count 10 : Nat)) (fun _ i => l.length - (intOf i).toNat)
  case atStart => exact ⟨0, Nat.zero_le _, rfl, rfl⟩
  case round =>
    obtain ⟨k, hk, rfl, rfl⟩ := hrel
    have hcl : (l.take k).count 10 ≤ k := Nat.le_trans List.count_le_length (List.length_take_le _ _)
    by_cases hlt : k < l.length
    · have hck := hc k hlt
      have HS : Hid ((l.take (k + 1)).count 10 = (l.take k).count 10 + if (l[k].toNat : Int) = 10 then 1 else 0) := count_snoc l k hlt
      by_cases h10 : (l[k].toNat : Int) = 10
      · have hb : ((l[k].toNat : Int) == 10) = true := beq_iff_eq.2 h10
        have H10 : Hid ((l[k].toNat : Int) = 10) := h10
        clear h10
        go_wp2
        go_round
        case rel => exact ⟨k + 1, by omega, by go_num, by rw [HS.out, if_pos H10.out]; go_num⟩
        case measure => simp [intOf]; omega
      · have hb : ((l[k].toNat : Int) == 10) = false := beq_eq_false_iff_ne.2 h10
        go_wp2
        go_round
        case rel => exact ⟨k + 1, by omega, by go_num, by rw [HS.out, if_neg h10]; go_num⟩
        case measure => simp [intOf]; omega
    · go_wp2
      go_ret
      exact ⟨ret_int (by rw [List.take_of_length_le (by omega)]), rfl⟩

theorem count_nil (w : World) : Calls Tryd.prog 22 #[.slice none 0 0] w fun e w' => e = .returned (.int .i64 0) ∧ w' = w := by
  go_enter Tryd.func22, Tryd.ntmps22
  go_wp2
  refine wp_loop_rounds 1 ?_
  rw [rounds_succ]
  go_wp2
  go_ret
  exact ⟨rfl, rfl⟩

/-- What a slice of the call's own holds. -/
def Owns (B : Nat) (w : World) (v : Value) (l : List UInt8) : Prop := w.ownsRow B 5 1 v l.length (Lib.byteCells l)

theorem countNewlines {B : Nat} {v : Value} {l : List UInt8} {w : World} (h : Owns B w v l) (hl : l.length ≤ 1000000000000) :
    Calls Tryd.prog 22 #[v] w fun e w' => e = .returned (.int .i64 (l.count 10 : Nat)) ∧ w' = w := by
  rcases ownsBytes h with ⟨rfl, rfl⟩ | ⟨g, cap, rfl, _, _, _, _, hc⟩
  · exact count_nil w
  · exact count_row g cap l w hl hc

/-! ### Two rows compared -/
theorem equal_short (a1 a2 : Option Addr) (n1 n2 c1 c2 : Nat) (w : World) (h : n1 ≠ n2) :
    Calls Tryd.prog 16 #[.slice a1 n1 c1, .slice a2 n2 c2] w fun e w' => e = .returned (.bool false) ∧ w' = w := by
  have hb : ((n1 : Int) != (n2 : Int)) = true := by rw [bne_iff_ne]; omega
  go_enter Tryd.func16, Tryd.ntmps16
  go_wp2
  go_ret
  exact ⟨rfl, rfl⟩

theorem equal_empty (a1 a2 : Option Addr) (c1 c2 : Nat) (w : World) :
    Calls Tryd.prog 16 #[.slice a1 0 c1, .slice a2 0 c2] w fun e w' => e = .returned (.bool true) ∧ w' = w := by
  go_enter Tryd.func16, Tryd.ntmps16
  go_wp2
  refine wp_loop_rounds 1 ?_
  rw [rounds_succ]
  go_wp2
  go_ret
  exact ⟨rfl, rfl⟩

theorem below_drewN (w : World) (k : Nat) (B : Nat) : Below B w (w.drewN k) := ⟨rfl, rfl, rfl, Nat.le_refl _, fun _ _ => rfl⟩

theorem eqb_no {l m : List UInt8} (k : Nat) (h1 : k < l.length) (h2 : k < m.length) (h : (l[k].toNat : Int) ≠ (m[k].toNat : Int)) : (l == m) = false := by
  rw [beq_eq_false_iff_ne]
  rintro rfl
  exact h rfl

theorem eqb_yes {l m : List UInt8} (hl : l.length = m.length) (H : Hid (∀ j (h1 : j < l.length) (h2 : j < m.length), l[j] = m[j])) : (l == m) = true := by
  rw [beq_iff_eq]
  exact List.ext_getElem hl fun j h1 h2 => H.out j h1 h2

theorem eqb_next {l m : List UInt8} (k : Nat) (H : Hid (∀ j, j < k → ∀ (h1 : j < l.length) (h2 : j < m.length), l[j] = m[j])) (h1 : k < l.length) (h2 : k < m.length) (h : (l[k].toNat : Int) = (m[k].toNat : Int)) : ∀ j, j < k + 1 → ∀ (h1 : j < l.length) (h2 : j < m.length), l[j] = m[j] := by
  intro j hj i1 i2
  by_cases hjk : j = k
  · subst hjk; exact UInt8.toNat_inj.1 (by omega)
  · exact H.out j (by omega) i1 i2

set_option maxHeartbeats 400000 in
theorem equal_row (g1 g2 c1 c2 : Nat) (l m : List UInt8) (w : World) (hlm : l.length = m.length) (hl : l.length ≤ 1000000000000)
    (hc1 : ∀ j (hj : j < l.length), w.cell? ⟨g1, j, none⟩ = some (.int .u8 (l[j].toNat : Int))) (hc2 : ∀ j (hj : j < m.length), w.cell? ⟨g2, j, none⟩ = some (.int .u8 (m[j].toNat : Int))) :
    Calls Tryd.prog 16 #[.slice (some ⟨g1, 0, none⟩) l.length c1, .slice (some ⟨g2, 0, none⟩) m.length c2] w fun e w' => e = .returned (.bool (l == m)) ∧ ∃ n, w' = w.drewN n := by
  have hb : ((l.length : Int) != (m.length : Int)) = false := by rw [hlm]; simp
  have HL : Hid (l.length = m.length) := hlm
  have hle : l.length ≤ m.length := by omega
  clear hlm
  go_enter Tryd.func16, Tryd.ntmps16
  go_wp2
  go_loopw [5] (fun i wr => ∃ k : Nat, k ≤ l.length ∧ i = .int .i64 k ∧ (∃ n, wr = w.drewN n) ∧ ∀ j, j < k → ∀ (h1 : j < l.length) (h2 : j < m.length), l[j] = m[j]) (fun i _ => l.length - (intOf i).toNat)
  case atStart => exact ⟨0, Nat.zero_le _, rfl, ⟨0, rfl⟩, fun j hj => by omega⟩
  case round =>
    obtain ⟨k, hk, rfl, ⟨nd, rfl⟩, hall⟩ := hrel
    have H : Hid (∀ j, j < k → ∀ (h1 : j < l.length) (h2 : j < m.length), l[j] = m[j]) := hall
    clear hall
    by_cases hlt : k < l.length
    · have hck1 := hc1 k hlt
      have hlt2 : k < m.length := by omega
      have hck2 := hc2 k hlt2
      have i1 : (k : Int) < (l.length : Int) := by omega
      have i2 : (k : Int) < (m.length : Int) := by omega
      by_cases he : (l[k].toNat : Int) = (m[k].toNat : Int)
      · have hb2 : ((l[k].toNat : Int) != (m[k].toNat : Int)) = false := by rw [he]; simp
        have HE : Hid ((l[k].toNat : Int) = (m[k].toNat : Int)) := he
        clear he
        go_wp2
        go_quiet (fail)
        go_wp2
        go_roundw
        case rel => exact ⟨k + 1, by omega, by go_num, ⟨_, rfl⟩, eqb_next k H hlt hlt2 HE.out⟩
        case measure => simp [intOf]; omega
      · have hb2 : ((l[k].toNat : Int) != (m[k].toNat : Int)) = true := by rw [bne_iff_ne]; exact he
        go_wp2
        go_quiet (fail)
        go_wp2
        go_ret
        exact ⟨ret_bool (eqb_no k hlt hlt2 he).symm, ⟨nd + nq, by rw [World.drewN_drewN]⟩⟩
    · go_wp2
      go_ret
      exact ⟨ret_bool (eqb_yes HL.out (fun j h1 h2 => H.out j (by omega) h1 h2)).symm, ⟨nd, rfl⟩⟩

theorem bytesEqual {B1 B2 : Nat} {v1 v2 : Value} {l m : List UInt8} {w : World} (h1 : Owns B1 w v1 l) (h2 : Owns B2 w v2 m) (b1 : l.length ≤ 1000000000000) :
    Calls Tryd.prog 16 #[v1, v2] w fun e w' => e = .returned (.bool (l == m)) ∧ ∃ n, w' = w.drewN n := by
  have same : ∀ (e : Ending) (w' : World) (b : Bool), (e = .returned (.bool b) ∧ w' = w) → b = (l == m) → e = .returned (.bool (l == m)) ∧ ∃ n, w' = w.drewN n := by
    rintro e w' b ⟨rfl, rfl⟩ rfl
    exact ⟨rfl, 0, rfl⟩
  obtain ⟨a1, c1, e1⟩ : ∃ a c, v1 = .slice a l.length c := by
    rcases ownsBytes h1 with ⟨rfl, rfl⟩ | ⟨g, cap, rfl, _⟩
    · exact ⟨none, 0, rfl⟩
    · exact ⟨_, _, rfl⟩
  obtain ⟨a2, c2, e2⟩ : ∃ a c, v2 = .slice a m.length c := by
    rcases ownsBytes h2 with ⟨rfl, rfl⟩ | ⟨g, cap, rfl, _⟩
    · exact ⟨none, 0, rfl⟩
    · exact ⟨_, _, rfl⟩
  by_cases hlm : l.length = m.length
  · by_cases h0 : l = []
    · subst h0
      obtain rfl : m = [] := List.eq_nil_of_length_eq_zero (by rw [← hlm]; rfl)
      subst e1
      subst e2
      exact (equal_empty a1 a2 c1 c2 w).mono fun e w' h => same e w' true h rfl
    · rcases ownsBytes h1 with ⟨_, h⟩ | ⟨g1, c1, hv1, _, _, _, _, hc1⟩
      · exact absurd h h0
      rcases ownsBytes h2 with ⟨_, h⟩ | ⟨g2, c2, hv2, _, _, _, _, hc2⟩
      · subst h
        exact absurd (List.eq_nil_of_length_eq_zero hlm) h0
      rw [hv1, hv2]
      exact equal_row g1 g2 c1 c2 l m w hlm b1 hc1 hc2
  · subst e1
    subst e2
    refine (equal_short a1 a2 l.length m.length c1 c2 w hlm).mono fun e w' h => same e w' false h ?_
    symm
    rw [beq_eq_false_iff_ne]
    rintro rfl
    exact hlm rfl

/-! ### A row copied -/
/-- The first k bytes of l, zeros behind them. -/
def fill (l : List UInt8) (k : Nat) : List Value := Lib.byteCells (l.take k) ++ List.replicate (l.length - k) (.int .u8 0)

theorem fill_zero (l : List UInt8) : fill l 0 = List.replicate l.length (.int .u8 0) := by simp [fill, Lib.byteCells]
theorem fill_all (l : List UInt8) (k : Nat) (h : ¬ k < l.length) : fill l k = Lib.byteCells l := by
  unfold fill
  rw [List.take_of_length_le (by omega), show l.length - k = 0 by omega]
  simp
theorem fill_step (l : List UInt8) (k : Nat) (h : k < l.length) : (fill l k).set k (.int .u8 (l[k].toNat : Int)) = fill l (k + 1) := by
  apply List.ext_getElem?
  intro j
  have hlen : (Lib.byteCells (l.take k)).length = k := by simp [Lib.byteCells]; omega
  have hlen' : (Lib.byteCells (l.take (k + 1))).length = k + 1 := by simp [Lib.byteCells]; omega
  unfold fill
  rw [List.getElem?_set]
  by_cases hjk : k = j
  · subst hjk
    rw [if_pos rfl, if_pos (by simp [hlen]; omega), List.getElem?_append_left (by omega)]
    simp [Lib.byteCells, h]
  · rw [if_neg hjk]
    by_cases hj : j < k
    · rw [List.getElem?_append_left (by omega), List.getElem?_append_left (by omega)]
      simp [Lib.byteCells, hj, show j < k + 1 by omega]
    · rw [List.getElem?_append_right (by omega), List.getElem?_append_right (by omega), hlen, hlen', List.getElem?_replicate, List.getElem?_replicate]
      by_cases h2 : j < l.length
      · rw [if_pos (by omega), if_pos (by omega)]
      · rw [if_neg (by omega), if_neg (by omega)]

theorem info5 : (Tryd.prog.info? 5).map (fun i => (i.zero, i.size, i.bytes)) = some (some (.int .u8 0), 1, 1) := by kernel_rfl

theorem clone_nil (w : World) : Calls Tryd.prog 12 #[.slice none 0 0] w fun e w' => e = .returned (.slice none 0 0) ∧ w' = w := by
  have hn := fun w => Lib.run_eql_slice_nil (P := Tryd.prog) w 22 5 none 0 0 0 0 Tryd.underlying22
  go_enter Tryd.func12, Tryd.ntmps12
  go_wp2
  go_ret
  exact ⟨rfl, rfl⟩

set_option maxHeartbeats 800000 in
theorem clone_row (b off cap : Nat) (l : List UInt8) (w : World) (hb : b < w.heap.size) (hl : l.length ≤ 1048576)
    (hc : ∀ j (hj : j < l.length), w.cell? ⟨b, off + j, none⟩ = some (.int .u8 (l[j].toNat : Int))) :
    Calls Tryd.prog 12 #[.slice (some ⟨b, off, none⟩) l.length cap] w fun e w' => e = .returned (.slice (some ⟨w.heap.size, 0, none⟩) l.length l.length) ∧ Owns w.heap.size w' (.slice (some ⟨w.heap.size, 0, none⟩) l.length l.length) l ∧ Below w.heap.size w w' := by
  obtain ⟨i0, hi, hz0, hz1, hz2⟩ := info_parts info5
  have hn := fun w => Lib.run_eql_slice_nil (P := Tryd.prog) w 22 5 (some ⟨b, off, none⟩) l.length cap 0 0 Tryd.underlying22
  go_enter Tryd.func12, Tryd.ntmps12
  go_wp2_with (at_make; refine wpList_make_full _ rfl _ _ 22 rfl w.heap.size 5 i0 (.int .u8 0) 1 Tryd.underlying22 hi hz0 hz1 .i64 .i64 _ _ l.length rfl rfl rfl rfl (by rw [hz2]; omega) (by unfold maxLen; omega) (Nat.le_refl _) ?_)
  intro w1 hown hgrow
  have hb1 : Below w.heap.size w w1 := (Below.refl _ _).grown hgrow (Nat.le_refl _) (by intro k hk; cases hk)
  have hown0 : w1.ownsRow w.heap.size 5 1 (.slice (some ⟨w.heap.size, 0, none⟩) l.length l.length) l.length (fill l 0) := by
    rw [fill_zero, ← toList_madeCells_one]
    exact hown
  clear hown hgrow
  go_wp2
  go_loopw [4] (fun i wr => ∃ k : Nat, k ≤ l.length ∧ i = .int .i64 k ∧ wr.ownsRow w.heap.size 5 1 (.slice (some ⟨w.heap.size, 0, none⟩) l.length l.length) l.length (fill l k) ∧ Below w.heap.size w wr) (fun i _ => l.length - (intOf i).toNat)
  case atStart => exact ⟨0, Nat.zero_le _, rfl, hown0, hb1⟩
  case round =>
    clear hown0 hb1
    obtain ⟨k, hk, rfl, hown, hbel⟩ := hrel
    by_cases hlt : k < l.length
    · have hsrc : wr.cell? ⟨b, off + k, none⟩ = some (.int .u8 (l[k].toNat : Int)) := (hbel.cell (by exact hb)).trans (hc k hlt)
      obtain ⟨u, hu⟩ : ∃ u, wr.cell? ⟨w.heap.size, k, none⟩ = some u := by
        rw [hown.cellAt k (by omega)]
        have hlen : k < (fill l k).length := by have := hown.1; omega
        exact ⟨_, List.getElem?_eq_getElem hlen⟩
      have hfz : wr.frozen? ⟨w.heap.size, k, none⟩ = false := hown.frozenAt k
      have hnext := (hown.stored k (.int .u8 (l[k].toNat : Int))).1
      rw [fill_step l k hlt] at hnext
      have HN : Hid ((wr.setCell ⟨w.heap.size, k, none⟩ (.int .u8 (l[k].toNat : Int))).ownsRow w.heap.size 5 1 (.slice (some ⟨w.heap.size, 0, none⟩) l.length l.length) l.length (fill l (k + 1))) := hnext
      clear hnext hown
      have i1 : (k : Int) < (l.length : Int) := by omega
      go_wp2
      go_roundw
      case rel => exact ⟨k + 1, by omega, by go_num, HN.out, hbel.setCell (Nat.le_refl _) _⟩
      case measure => simp [intOf]; omega
    · rw [fill_all l k hlt] at hown
      go_wp2
      go_ret
      exact ⟨rfl, hown, hbel⟩

set_option maxHeartbeats 400000 in
theorem clone_empty (x : Addr) (cap : Nat) (w : World) :
    Calls Tryd.prog 12 #[.slice (some x) 0 cap] w fun e w' => e = .returned (.slice (some ⟨w.heap.size, 0, none⟩) 0 0) ∧ Owns w.heap.size w' (.slice (some ⟨w.heap.size, 0, none⟩) 0 0) [] ∧ Below w.heap.size w w' := by
  obtain ⟨i0, hi, hz0, hz1, hz2⟩ := info_parts info5
  have hn := fun w => Lib.run_eql_slice_nil (P := Tryd.prog) w 22 5 (some x) 0 cap 0 0 Tryd.underlying22
  go_enter Tryd.func12, Tryd.ntmps12
  go_wp2_with (at_make; refine wpList_make_full _ rfl _ _ 22 rfl w.heap.size 5 i0 (.int .u8 0) 1 Tryd.underlying22 hi hz0 hz1 .i64 .i64 _ _ 0 rfl rfl rfl rfl (by rw [hz2]; omega) (by unfold maxLen; omega) (Nat.le_refl _) ?_)
  intro w1 hown hgrow
  have hb1 : Below w.heap.size w w1 := (Below.refl _ _).grown hgrow (Nat.le_refl _) (by intro k hk; cases hk)
  have hown0 : Owns w.heap.size w1 (.slice (some ⟨w.heap.size, 0, none⟩) 0 0) [] := by
    rcases hown.2 with ⟨h, _⟩ | ⟨g, c, cur, h1, h2, h3, h4, h5, h6, _⟩
    · cases h
    · exact ⟨rfl, .inr ⟨g, c, cur, h1, h2, h3, h4, h5, h6, by simp [Lib.byteCells]⟩⟩
  clear hown hgrow
  go_wp2
  refine wp_loop_rounds 1 ?_
  rw [rounds_succ]
  go_wp2
  go_ret
  exact ⟨rfl, hown0, hb1⟩

/-- A slice of bytes that came in: nil; or empty; or a row. -/
def RowOf (w : World) (a : Option Addr) (cap : Nat) (l : List UInt8) : Prop :=
  (a = none ∧ cap = 0 ∧ l = []) ∨ (∃ x, a = some x ∧ l = []) ∨ ∃ b off, a = some ⟨b, off, none⟩ ∧ b < w.heap.size ∧ ∀ j (hj : j < l.length), w.cell? ⟨b, off + j, none⟩ = some (.int .u8 (l[j].toNat : Int))

theorem cloneBytes (a : Option Addr) (cap : Nat) (l : List UInt8) (w : World) (h : RowOf w a cap l) (hl : l.length ≤ 1048576) :
    Calls Tryd.prog 12 #[.slice a l.length cap] w fun e w' => ∃ v, e = .returned v ∧ Owns w.heap.size w' v l ∧ Below w.heap.size w w' := by
  rcases h with ⟨rfl, rfl, rfl⟩ | ⟨x, rfl, rfl⟩ | ⟨b, off, rfl, hb, hc⟩
  · refine (clone_nil w).mono ?_
    rintro e w' ⟨rfl, rfl⟩
    exact ⟨_, rfl, World.ownsRow_nil _ _ _ _, Below.refl _ _⟩
  · refine (clone_empty x cap w).mono ?_
    rintro e w' ⟨rfl, h1, h2⟩
    exact ⟨_, rfl, h1, h2⟩
  · refine (clone_row b off cap l w hb hl hc).mono ?_
    rintro e w' ⟨rfl, h1, h2⟩
    exact ⟨_, rfl, h1, h2⟩
end Go.Proofs.Qxb6600084aDoor
