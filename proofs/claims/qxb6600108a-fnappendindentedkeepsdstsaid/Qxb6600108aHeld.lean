/-
  dst inside appendIndented: a slice that the call owns, or the full row that came in; what an append makes of it.
-/
import Derived.Test.Qxb6600108aWalksB
import Derived.Lib.AppendStr
import Derived.Lib.SlBytesConst
import Derived.ArgAppend
import Derived.OneCell
namespace Go.Proofs.Qxb6600108a
open Go.RowKit

def bs (s : ByteArray) : List UInt8 := s.data.toList
theorem bs_length (m : ByteArray) : (bs m).length = m.size := Array.length_toList

/-- The slice value (a, n, c) holds the bytes l: its row is one of the call's own (from block H + 2 on), or it came in full. -/
def Held (H : Nat) (w : World) (a : Option Addr) (n c : Nat) (l : List UInt8) : Prop :=
  n = l.length ∧ (w.ownsRow (H + 2) 5 1 (.slice a n c) n (Lib.byteCells l) ∨
    ∃ g, a = some ⟨g, 0, none⟩ ∧ c = n ∧ g < H ∧ ∀ j (hj : j < l.length), w.cell? ⟨g, j, none⟩ = some (.int .u8 (l[j].toNat : Int)))

theorem Held.alloc {H : Nat} {w : World} {a : Option Addr} {n c : Nat} {l : List UInt8} (h : Held H w a n c l) (o : Obj) : Held H (w.alloc o) a n c l := by
  obtain ⟨hn, h | ⟨g, h1, h2, h3, hc⟩⟩ := h
  · exact ⟨hn, .inl (h.alloc o)⟩
  · exact ⟨hn, .inr ⟨g, h1, h2, h3, fun j hj => Lib.cell?_alloc_marked o (hc j hj)⟩⟩

theorem Held.drew {H : Nat} {w : World} {a : Option Addr} {n c : Nat} {l : List UInt8} (h : Held H w a n c l) : Held H w.drew a n c l := h

theorem Held.set {H : Nat} {w : World} {a : Option Addr} {n c : Nat} {l : List UInt8} (h : Held H w a n c l) (u : Value) : Held H (w.setCell ⟨H, 0, none⟩ u) a n c l := by
  obtain ⟨hn, h | ⟨g, h1, h2, h3, hc⟩⟩ := h
  · exact ⟨hn, .inl (ownsRow_setCell_below h (by show H < H + 2; omega) u)⟩
  · exact ⟨hn, .inr ⟨g, h1, h2, h3, fun j hj => (((Below.refl H w).setCell (p := ⟨H, 0, none⟩) (Nat.le_refl _) u).cell (by exact h3)).trans (hc j hj)⟩⟩

theorem Held.view {H : Nat} {w : World} {a : Option Addr} {n c : Nat} {l : List UInt8} (h : Held H w a n c l) (hH : H ≤ w.heap.size) (hl : l.length ≤ 1000000000000) : View w a n c l := by
  obtain ⟨hn, h | ⟨g, h1, h2, h3, hc⟩⟩ := h
  · refine ⟨hn, ?_⟩
    rcases h.2 with ⟨hv, h0⟩ | ⟨g, cap, cur, hv, _, hg, hnc, hm, _⟩
    · simp only [Value.slice.injEq] at hv
      exact .inl ⟨hv.1, hv.2.1, hv.2.2⟩
    · simp only [Value.slice.injEq, true_and] at hv
      obtain ⟨rfl, rfl⟩ := hv
      refine .inr ⟨g, rfl, hnc, hm, (Array.getElem?_eq_some_iff.1 hg).1, fun j hj => ?_⟩
      rw [h.cellAt j (by omega)]
      simp [Lib.byteCells, hj]
  · exact ⟨hn, .inr ⟨g, h1, by omega, by unfold maxLen; omega, by omega, hc⟩⟩

theorem shape_of {w : World} {B n : Nat} {v : Value} {xs : List Value} (h : w.ownsRow B 5 1 v n xs) : ∃ a c, v = .slice a n c := by
  rcases h.2 with ⟨hv, h0⟩ | ⟨g, cap, cur, hv, _⟩
  · exact ⟨none, 0, by rw [hv, h0]⟩
  · exact ⟨_, _, hv⟩

theorem bytes_oneCell (m : List UInt8) : ∀ u ∈ Lib.byteCells m, u.oneCell' = true := by
  intro u hu
  simp only [Lib.byteCells, List.mem_map] at hu
  obtain ⟨b, _, rfl⟩ := hu
  rfl

theorem cells_of {w : World} {d : Addr} {k : List UInt8} (h : ∀ j (hj : j < k.length), w.cell? (d.add j) = some (.int .u8 (k[j].toNat : Int))) : ∀ j u, (Lib.byteCells k)[j]? = some u → w.cell? (d.add j) = some u := by
  intro j u hj
  have hl : j < k.length := by
    have := (List.getElem?_eq_some_iff.1 hj).1
    simpa [Lib.byteCells] using this
  rw [h j hl]
  simp [Lib.byteCells, hl] at hj
  rw [← hj]

theorem add_zero (g j : Nat) : (⟨g, 0, none⟩ : Addr).add j = ⟨g, j, none⟩ := by unfold Addr.add; split <;> simp_all
theorem add_off (g off j : Nat) : (⟨g, off, none⟩ : Addr).add j = ⟨g, off + j, none⟩ := by unfold Addr.add; split <;> simp_all

/-- One append of bytes that lie somewhere: what it comes to. -/
theorem run_held_row (w : World) (ty : TypeId) {H : Nat} {a : Option Addr} {n c : Nat} {l : List UInt8} (h : Held H w a n c l) (ad : Addr) (m : List UInt8) (mc : Nat) (hm : m ≠ [])
    (hc : ∀ j (hj : j < m.length), w.cell? (ad.add j) = some (.int .u8 (m[j].toNat : Int))) (hlim : l.length + m.length ≤ 1000000000000) (hB : H + 2 ≤ w.heap.size) :
    ∃ a' n' c' w', (Builtin.append_ #[22, 22] ty #[.slice a n c, .slice (some ad) m.length mc]).run Try.prog w = .ok (.slice a' n' c') w' ∧ Held H w' a' n' c' (l ++ m) ∧ Below (H + 2) w w' := by
  obtain ⟨i0, hi, hz0, hz1, hz2⟩ := info_parts info5
  have hpos : 0 < m.length := List.length_pos_iff.2 hm
  obtain ⟨rfl, h | ⟨g, rfl, rfl, hg, hcell⟩⟩ := h
  · obtain ⟨v', w', hr, ho, hgr, _⟩ := run_append_own (P := Try.prog) w (H + 2) 22 ty 5 i0 (.int .u8 0) 1 1 Try.underlying22 hi hz0 hz1 hz2 rfl (by decide) _ l.length _ h ad m.length mc (Lib.byteCells m) (by simp [Lib.byteCells]) (cells_of hc) (bytes_oneCell m) (by unfold maxLen; omega) (by omega) hB
    obtain ⟨a', c', rfl⟩ := shape_of ho
    refine ⟨a', _, c', w', hr, ⟨by rw [List.length_append], .inl ?_⟩, (Below.refl _ _).grown hgr hB fun k hk => (h.lt k hk).1⟩
    rw [Lib.byteCells_append]
    exact ho
  · have hold : ∀ j (hj : j < l.length), w.cell? ((⟨g, 0, none⟩ : Addr).add j) = some (.int .u8 (l[j].toNat : Int)) := fun j hj => by rw [add_zero]; exact hcell j hj
    obtain ⟨v', w', hr, ho, hgr⟩ := run_append_arg_grows (P := Try.prog) w 22 ty 5 i0 (.int .u8 0) 1 1 Try.underlying22 hi hz0 hz1 hz2 rfl (by decide) ⟨g, 0, none⟩ l.length l.length (Lib.byteCells l) (by simp [Lib.byteCells]) (cells_of hold) ad m.length mc (Lib.byteCells m) (by simp [Lib.byteCells]) (cells_of hc) (by omega) (by unfold maxLen; omega) (by omega)
    obtain ⟨a', c', rfl⟩ := shape_of ho
    refine ⟨a', _, c', w', hr, ⟨by rw [List.length_append], .inl ?_⟩, (Below.refl _ _).grown hgr hB (by intro k hk; cases hk)⟩
    rw [Lib.byteCells_append]
    refine ⟨ho.1, ?_⟩
    rcases ho.2 with h0 | ⟨g', cap, cur, hv, hgg, r⟩
    · exact .inl h0
    · exact .inr ⟨g', cap, cur, hv, Nat.le_trans hB hgg, r⟩

/-- One append of a string's bytes. -/
theorem run_held_str (w : World) (ty : TypeId) {H : Nat} {a : Option Addr} {n c : Nat} {l : List UInt8} (h : Held H w a n c l) (m : ByteArray) (hlim : l.length + m.size ≤ 1000000000000) (hB : H + 2 ≤ w.heap.size) :
    ∃ a' n' c' w', (Builtin.append_ #[22, 9] ty #[.slice a n c, .string m]).run Try.prog w = .ok (.slice a' n' c') w' ∧ Held H w' a' n' c' (l ++ bs m) ∧ Below (H + 2) w w' := by
  obtain ⟨i0, hi, hz0, hz1, hz2⟩ := info_parts info5
  obtain ⟨rfl, h | ⟨g, rfl, rfl, hg, hcell⟩⟩ := h
  · obtain ⟨v', w', hr, ho, hgr, _⟩ := Lib.run_append_own_string (P := Try.prog) w (H + 2) 22 9 ty 5 i0 Try.underlying22 Try.underlying9 hi hz0 hz1 hz2 _ l.length _ h m (by unfold maxLen; omega) (by omega) hB
    obtain ⟨a', c', rfl⟩ := shape_of ho
    refine ⟨a', _, c', w', hr, ⟨by rw [List.length_append, bs_length], .inl ?_⟩, (Below.refl _ _).grown hgr hB fun k hk => (h.lt k hk).1⟩
    rw [Lib.byteCells_append]
    exact ho
  · by_cases hm : m.size = 0
    · have hf := Lib.run_firstCells_string (P := Try.prog) w 1 m
      have he : Lib.strCells m = [] := List.eq_nil_of_length_eq_zero (by rw [Lib.strCells_length]; exact hm)
      have hb : bs m = [] := List.eq_nil_of_length_eq_zero (by rw [bs_length]; exact hm)
      rw [hm, he] at hf
      refine ⟨some ⟨g, 0, none⟩, l.length, l.length, w, ?_, ⟨by rw [hb]; simp, .inr ⟨g, rfl, rfl, hg, by rw [hb, List.append_nil]; exact hcell⟩⟩, Below.refl _ _⟩
      simp [Builtin.append_, run_underlying Try.underlying22, run_underlying Try.underlying9, sizeOf, typeInfo, hi, hz1, Builtin.lenOf, hm, hf, storeCells]
    · have hold : ∀ j (hj : j < l.length), w.cell? ((⟨g, 0, none⟩ : Addr).add j) = some (.int .u8 (l[j].toNat : Int)) := fun j hj => by rw [add_zero]; exact hcell j hj
      have hcl : (Lib.byteCells l).length = l.length := Lib.byteCells_length l
      have hr := Lib.run_append_grow_string (P := Try.prog) w 22 9 ty 5 i0 (.int .u8 0) Try.underlying22 Try.underlying9 hi hz0 ⟨g, 0, none⟩ l.length l.length (Lib.byteCells l) (by rw [hz1, hcl, Nat.mul_one]) (cells_of hold) m (by omega) (by omega) (by rw [hz2]; exact growslice_fits (by omega) (by omega))
      have hge := grownCap_ge w (l.length + m.size) l.length 5
      have hcm : grownCap w (l.length + m.size) l.length 5 ≤ maxLen := grownCap_le_maxLen w (l.length + m.size) l.length 5 (by unfold maxLen; omega)
      have hlen : (Lib.byteCells l ++ Lib.strCells m).length = (l.length + m.size) * 1 := by rw [List.length_append, hcl, Lib.strCells_length, Nat.mul_one]
      refine ⟨_, _, _, _, hr, ⟨by rw [List.length_append, bs_length], .inl ?_⟩, (Below.refl _ _).drew.alloc hB _⟩
      rw [Lib.byteCells_append]
      refine ⟨hlen, .inr ⟨w.heap.size, _, _, rfl, hB, heap_alloc_new w.drew _, hge, hcm, ?_, ?_⟩⟩
      · have hz1 : (Value.int IntKind.u8 0).cells.size = 1 := rfl
        simp only [Array.size_append, List.size_toArray, size_zeroCells, hz1, hcl, Lib.strCells_length]
        omega
      · simp only [Array.toList_append, List.append_assoc]
        rw [← List.append_assoc, Nat.mul_one]
        have e : l.length + m.size = (Lib.byteCells l ++ Lib.strCells m).length := by rw [hlen, Nat.mul_one]
        rw [e]
        exact List.take_left

theorem wp_held_row {w : World} {ops : Array Oper} {rest : List Oper} {o : Oper} {a : Act} {Q : Exit → Act → World → Prop} (hgd : o.guard = none) (s x : Operand)
    (ho : o.op = .call { callee := .builtin .append, args := #[s, x], argTypes := #[22, 22] }) (H : Nat) (ao : Option Addr) (n c : Nat) (l : List UInt8) (hs : a.eval s = .slice ao n c) (h : Held H w ao n c l)
    (ad : Addr) (m : List UInt8) (mc : Nat) (hx : a.eval x = .slice (some ad) m.length mc) (hm : m ≠ []) (hc : ∀ j (hj : j < m.length), w.cell? (ad.add j) = some (.int .u8 (m[j].toNat : Int)))
    (hlim : l.length + m.length ≤ 1000000000000) (hB : H + 2 ≤ w.heap.size)
    (K : ∀ a' n' c' w', Held H w' a' n' c' (l ++ m) → Below (H + 2) w w' → wpList Try.prog ops Q rest (a.put o.dst (.slice a' n' c')) w') : wpList Try.prog ops Q (o :: rest) a w := by
  refine wpList_plain hgd fun K' hK => ?_
  obtain ⟨a', n', c', w', hr, h1, h2⟩ := run_held_row w o.type h ad m mc hm hc hlim hB
  unfold Oper.wp execOp
  simp only [ho, resolve, invoke, builtin, Sem.run_bind, Sem.run_pure, Result.andThen_ok, List.map_toArray, List.map_cons, List.map_nil, hs, hx, hr]
  exact hK _ _ (K a' n' c' w' h1 h2)

theorem wp_held_str {w : World} {ops : Array Oper} {rest : List Oper} {o : Oper} {a : Act} {Q : Exit → Act → World → Prop} (hgd : o.guard = none) (s x : Operand)
    (ho : o.op = .call { callee := .builtin .append, args := #[s, x], argTypes := #[22, 9] }) (H : Nat) (ao : Option Addr) (n c : Nat) (l : List UInt8) (hs : a.eval s = .slice ao n c) (h : Held H w ao n c l)
    (m : ByteArray) (hx : a.eval x = .string m) (hlim : l.length + m.size ≤ 1000000000000) (hB : H + 2 ≤ w.heap.size)
    (K : ∀ a' n' c' w', Held H w' a' n' c' (l ++ bs m) → Below (H + 2) w w' → wpList Try.prog ops Q rest (a.put o.dst (.slice a' n' c')) w') : wpList Try.prog ops Q (o :: rest) a w := by
  refine wpList_plain hgd fun K' hK => ?_
  obtain ⟨a', n', c', w', hr, h1, h2⟩ := run_held_str w o.type h m hlim hB
  unfold Oper.wp execOp
  simp only [ho, resolve, invoke, builtin, Sem.run_bind, Sem.run_pure, Result.andThen_ok, List.map_toArray, List.map_cons, List.map_nil, hs, hx, hr]
  exact hK _ _ (K a' n' c' w' h1 h2)

/-- The same at a step of a region that draws its order. -/
theorem step_held_row {w : World} {ops : Array Oper} {o : Oper} {a : Act} {K : Act → World → Prop} {Q : Exit → Act → World → Prop} {E : Prop} (hgd : o.guard = none) (s x : Operand)
    (ho : o.op = .call { callee := .builtin .append, args := #[s, x], argTypes := #[22, 22] }) (H : Nat) (ao : Option Addr) (n c : Nat) (l : List UInt8) (hs : a.eval s = .slice ao n c) (h : Held H w ao n c l)
    (ad : Addr) (m : List UInt8) (mn mc : Nat) (hx : a.eval x = .slice (some ad) mn mc) (hmn : mn = m.length) (hm : m ≠ []) (hc : ∀ j (hj : j < m.length), w.cell? (ad.add j) = some (.int .u8 (m[j].toNat : Int)))
    (hlim : l.length + m.length ≤ 1000000000000) (hB : H + 2 ≤ w.heap.size)
    (hK : ∀ a' n' c' w', Held H w' a' n' c' (l ++ m) → Below (H + 2) w w' → K (a.put o.dst (.slice a' n' c')) w') : if Region.wanted o (yielded ops a.tmps) = true then Oper.wp Try.prog o a w K Q else E := by
  subst hmn
  have hw : Region.wanted o (yielded ops a.tmps) = true := by simp [Region.wanted, hgd]
  rw [if_pos hw]
  obtain ⟨a', n', c', w', hr, h1, h2⟩ := run_held_row w o.type h ad m mc hm hc hlim hB
  unfold Oper.wp execOp
  simp only [ho, resolve, invoke, builtin, Sem.run_bind, Sem.run_pure, Result.andThen_ok, List.map_toArray, List.map_cons, List.map_nil, hs, hx, hr]
  exact hK a' n' c' w' h1 h2

/-- dst's variable in block H, the string's in block H + 1, and what dst holds. -/
def Inv (H : Nat) (w : World) (a : Option Addr) (n c : Nat) (l : List UInt8) (pre : ByteArray) : Prop :=
  H + 2 ≤ w.heap.size ∧ w.heap[H]? = some (.cells #[.slice a n c] 22 (0, 0)) ∧ w.heap[H + 1]? = some (.cells #[.string pre] 9 (0, 0)) ∧ Held H w a n c l

theorem Inv.size {H : Nat} {w : World} {a : Option Addr} {n c : Nat} {l : List UInt8} {pre : ByteArray} (h : Inv H w a n c l pre) : H + 2 ≤ w.heap.size := h.1
theorem Inv.held {H : Nat} {w : World} {a : Option Addr} {n c : Nat} {l : List UInt8} {pre : ByteArray} (h : Inv H w a n c l pre) : Held H w a n c l := h.2.2.2
theorem Inv.cell {H : Nat} {w : World} {a : Option Addr} {n c : Nat} {l : List UInt8} {pre : ByteArray} (h : Inv H w a n c l pre) : w.cell? ⟨H, 0, none⟩ = some (.slice a n c) := cell_of_one h.2.1
theorem Inv.pre {H : Nat} {w : World} {a : Option Addr} {n c : Nat} {l : List UInt8} {pre : ByteArray} (h : Inv H w a n c l pre) : w.cell? ⟨H + 1, 0, none⟩ = some (.string pre) := cell_of_one h.2.2.1

/-- Behind an append and the store of what it gave back. -/
theorem Inv.step {H : Nat} {w w' : World} {a a' : Option Addr} {n c n' c' : Nat} {l l' : List UInt8} {pre : ByteArray} (h : Inv H w a n c l pre) (hb : Below (H + 2) w w') (hh : Held H w' a' n' c' l') :
    Inv H (w'.setCell ⟨H, 0, none⟩ (.slice a' n' c')) a' n' c' l' pre := by
  obtain ⟨h1, h2, h3, _⟩ := h
  refine ⟨?_, ?_, ?_, hh.set _⟩
  · have := hb.size
    simp [World.setCell]
    omega
  · refine one_setCell (v := .slice a n c) ?_
    rw [hb.block H (by omega)]
    exact h2
  · rw [Below.heap_setCell _ _ _ _ (by show H + 1 ≠ H; omega), hb.block (H + 1) (by omega)]
    exact h3

/-- A store into dst's variable finds its place. -/
theorem Inv.place {H : Nat} {w w' : World} {a : Option Addr} {n c : Nat} {l : List UInt8} {pre : ByteArray} (h : Inv H w a n c l pre) (hb : Below (H + 2) w w') : w'.cell? ⟨H, 0, none⟩ = some (.slice a n c) ∧ w'.frozen? ⟨H, 0, none⟩ = false ∧ w'.cell? ⟨H + 1, 0, none⟩ = some (.string pre) := by
  have e : w'.heap[H]? = some (.cells #[.slice a n c] 22 (0, 0)) := by rw [hb.block H (by omega)]; exact h.2.1
  have e2 : w'.heap[H + 1]? = some (.cells #[.string pre] 9 (0, 0)) := by rw [hb.block (H + 1) (by omega)]; exact h.2.2.1
  exact ⟨cell_of_one e, free_of_one e, cell_of_one e2⟩

theorem Inv.alloc {H : Nat} {w : World} {a : Option Addr} {n c : Nat} {l : List UInt8} {pre : ByteArray} (h : Inv H w a n c l pre) (o : Obj) : Inv H (w.alloc o) a n c l pre := by
  obtain ⟨h1, h2, h3, h4⟩ := h
  exact ⟨by simp; omega, by rw [Below.heap_alloc _ _ _ (by omega)]; exact h2, by rw [Below.heap_alloc _ _ _ (by omega)]; exact h3, h4.alloc o⟩

theorem Inv.drew {H : Nat} {w : World} {a : Option Addr} {n c : Nat} {l : List UInt8} {pre : ByteArray} (h : Inv H w a n c l pre) : Inv H w.drew a n c l pre := h

theorem below_step {H : Nat} {w w' : World} (hb : Below (H + 2) w w') (u : Value) : Below H w (w'.setCell ⟨H, 0, none⟩ u) := (Below.mono (B' := H) hb (by omega)).setCell (p := ⟨H, 0, none⟩) (Nat.le_refl _) u
end Go.Proofs.Qxb6600108a
