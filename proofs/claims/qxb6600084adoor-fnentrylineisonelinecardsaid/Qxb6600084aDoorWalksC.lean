/-
  canon.appendString at a string: what comes back owns dst's bytes and, behind them, the string quoted.
-/
import Derived.Test.Qxb6600084aDoorWalksB
import Derived.Lib.AppendStr
import Derived.Deep.AppendLies
import Derived.Deep.RegionLaw
namespace Go.Proofs.Qxb6600084aDoor
open Go.RowKit

theorem owns_append {B : Nat} {w : World} {v : Value} {l m : List UInt8} {n : Nat} {cs : List Value} (hn : n = m.length) (hm : cs = Lib.byteCells m) (h : w.ownsRow B 5 1 v (l.length + n) (Lib.byteCells l ++ cs)) : Owns B w v (l ++ m) := by
  subst hn
  subst hm
  rw [← Lib.byteCells_append] at h
  unfold Owns
  rw [List.length_append]
  exact h

theorem Owns.alloc {B : Nat} {w : World} {v : Value} {l : List UInt8} (h : Owns B w v l) (o : Obj) : Owns B (w.alloc o) v l := World.ownsRow.alloc h o

theorem Owns.drew {B : Nat} {w : World} {v : Value} {l : List UInt8} (h : Owns B w v l) : Owns B w.drew v l := World.ownsRow.drew h

/-- What the call owns stays owned where no old block has turned. -/
theorem Owns.below {B : Nat} {w w' : World} {v : Value} {l : List UInt8} (h : Owns B w v l) (hb : Below w.heap.size w w') : Owns B w' v l := by
  refine ⟨h.1, ?_⟩
  rcases h.2 with h0 | ⟨g, cap, cur, hv, hg, hh, r⟩
  · exact .inl h0
  · exact .inr ⟨g, cap, cur, hv, hg, by rw [hb.block g (Array.getElem?_eq_some_iff.1 hh).1]; exact hh, r⟩

theorem below_grown {B : Nat} {w w' : World} {v : Value} {l : List UInt8} (h : Owns B w v l) (hB : B ≤ w.heap.size) (hg : w.grownBy w' v.ownBlock) : Below B w w' :=
  (Below.refl _ _).grown hg hB fun k hk => (World.ownsRow.lt h k hk).1

/-- 'append(dst, b1, b2 ..)', dst the call's own. -/
theorem wp_append_row {w : World} {ops : Array Oper} {rest : List Oper} {o : Oper} {a : Act} {Q : Exit → Act → World → Prop} (hgd : o.guard = none) (s x : Operand)
    (ho : o.op = .call { callee := .builtin .append, args := #[s, x], argTypes := #[22, 22] }) (B : Nat) (v : Value) (l : List UInt8) (hs : a.eval s = v) (h : Owns B w v l)
    (ad : Addr) (m : List UInt8) (c : Nat) (hx : a.eval x = .slice (some ad) m.length c) (hc : ∀ j (hj : j < m.length), w.cell? (ad.add j) = some (.int .u8 (m[j].toNat : Int)))
    (hlim : l.length + m.length ≤ 1000000000000) (hB : B ≤ w.heap.size)
    (K : ∀ v' w', Owns B w' v' (l ++ m) → Below B w w' → wpList Tryd.prog ops Q rest (a.put o.dst v') w') : wpList Tryd.prog ops Q (o :: rest) a w := by
  obtain ⟨i0, hi, hz0, hz1, hz2⟩ := info_parts info5
  refine wpList_append_own w hgd s x 22 ho B 5 i0 (.int .u8 0) 1 1 Tryd.underlying22 hi hz0 hz1 hz2 rfl (by decide) v l.length _ hs h ad m.length c (Lib.byteCells m) hx (by simp [Lib.byteCells]) ?_ ?_ (by unfold maxLen; omega) (by omega) hB ?_
  · intro j u hj
    have hl : j < m.length := by
      have := (List.getElem?_eq_some_iff.1 hj).1
      simpa [Lib.byteCells] using this
    rw [hc j hl]
    simp [Lib.byteCells, hl] at hj
    rw [← hj]
  · intro u hu
    simp only [Lib.byteCells, List.mem_map] at hu
    obtain ⟨b, _, rfl⟩ := hu
    rfl
  · intro v' w' h1 h2 _
    exact K v' w' (owns_append rfl rfl h1) (below_grown h hB h2)

theorem bs_length (m : ByteArray) : (Plain.bs m).length = m.size := Array.length_toList

/-- 'append(dst, b1, b2 ..)' at a step of a region that draws its order. -/
theorem step_append_row {w : World} {ops : Array Oper} {o : Oper} {a : Act} {K : Act → World → Prop} {Q : Exit → Act → World → Prop} {E : Prop} (hgd : o.guard = none) (s x : Operand)
    (ho : o.op = .call { callee := .builtin .append, args := #[s, x], argTypes := #[22, 22] }) (B : Nat) (v : Value) (l : List UInt8) (hs : a.eval s = v) (h : Owns B w v l)
    (ad : Addr) (m : List UInt8) (c : Nat) (hx : a.eval x = .slice (some ad) m.length c) (hc : ∀ j (hj : j < m.length), w.cell? (ad.add j) = some (.int .u8 (m[j].toNat : Int)))
    (hlim : l.length + m.length ≤ 1000000000000) (hB : B ≤ w.heap.size)
    (hK : ∀ v' w', Owns B w' v' (l ++ m) → Below B w w' → K (a.put o.dst v') w') : if Region.wanted o (yielded ops a.tmps) = true then Oper.wp Tryd.prog o a w K Q else E := by
  obtain ⟨i0, hi, hz0, hz1, hz2⟩ := info_parts info5
  have hw : Region.wanted o (yielded ops a.tmps) = true := by simp [Region.wanted, hgd]
  rw [if_pos hw]
  refine wp_append_own w s x 22 ho B 5 i0 (.int .u8 0) 1 1 Tryd.underlying22 hi hz0 hz1 hz2 rfl (by decide) v l.length _ hs h ad m.length c (Lib.byteCells m) hx (by simp [Lib.byteCells]) ?_ ?_ (by unfold maxLen; omega) (by omega) hB ?_
  · intro j u hj
    have hl : j < m.length := by
      have := (List.getElem?_eq_some_iff.1 hj).1
      simpa [Lib.byteCells] using this
    rw [hc j hl]
    simp [Lib.byteCells, hl] at hj
    rw [← hj]
  · intro u hu
    simp only [Lib.byteCells, List.mem_map] at hu
    obtain ⟨b, _, rfl⟩ := hu
    rfl
  · intro v' w' h1 h2 _
    exact hK v' w' (owns_append rfl rfl h1) (below_grown h hB h2)

/-- A string appended to a slice of the call's own. -/
theorem wp_append_str {w : World} {ops : Array Oper} {rest : List Oper} {o : Oper} {a : Act} {Q : Exit → Act → World → Prop} (hgd : o.guard = none) (s x : Operand)
    (ho : o.op = .call { callee := .builtin .append, args := #[s, x], argTypes := #[22, 9] }) (B : Nat) (v : Value) (l : List UInt8) (hs : a.eval s = v) (h : Owns B w v l)
    (m : ByteArray) (hx : a.eval x = .string m) (hlim : l.length + m.size ≤ 1000000000000) (hB : B ≤ w.heap.size)
    (K : ∀ v' w', Owns B w' v' (l ++ Plain.bs m) → Below B w w' → wpList Tryd.prog ops Q rest (a.put o.dst v') w') : wpList Tryd.prog ops Q (o :: rest) a w := by
  obtain ⟨i0, hi, hz0, hz1, hz2⟩ := info_parts info5
  refine Lib.wpList_append_own_string w hgd s x 22 9 ho B 5 i0 Tryd.underlying22 Tryd.underlying9 hi hz0 hz1 hz2 v l.length _ hs h m hx (by unfold maxLen; omega) (by omega) hB ?_
  intro v' w' h1 h2 _
  exact K v' w' (owns_append (bs_length m).symm rfl h1) (below_grown h hB h2)

/-! ### the plain steps -/
open Plain in
theorem escs_snoc (s : ByteArray) (k : Nat) (h : k < s.size) : escs ((bs s).take (k + 1)) = escs ((bs s).take k) ++ esc s[k] := by
  have e : (bs s).take (k + 1) = (bs s).take k ++ [s[k]] := by
    unfold bs
    rw [List.take_succ_eq_append_getElem (by simpa using h)]
    rfl
  rw [e]
  simp [escs]

open Plain in
theorem row_next {l : List UInt8} {s : ByteArray} {k : Nat} {m : List UInt8} (h : k < s.size) (hm : esc s[k] = m) : (l ++ 34 :: escs ((bs s).take k)) ++ m = l ++ 34 :: escs ((bs s).take (k + 1)) := by
  rw [escs_snoc s k h, hm]
  simp

/-! ### one byte, by its kind: the walk's own tests -/
open Plain in
theorem esc_quote {c : UInt8} (h : (c.toNat : Int) = 34 ∨ (c.toNat : Int) = 92) : esc c = [92, c] := by
  have : c = 34 ∨ c = 92 := by
    rcases h with h | h
    · exact .inl (UInt8.toNat_inj.1 (by simp; omega))
    · exact .inr (UInt8.toNat_inj.1 (by simp; omega))
  unfold esc
  rw [if_pos this]

open Plain in
theorem esc_plain {c : UInt8} (h1 : (c.toNat : Int) ≠ 34) (h2 : (c.toNat : Int) ≠ 92) (h3 : 32 ≤ (c.toNat : Int)) : esc c = [c] := by
  unfold esc
  rw [if_neg, if_pos]
  · rw [UInt8.le_iff_toNat_le]; simp; omega
  · rintro (rfl | rfl)
    · exact h1 rfl
    · exact h2 rfl

open Plain in
theorem esc_low {c d : UInt8} (h : (c.toNat : Int) = (d.toNat : Int)) : esc c = esc d := by
  rw [show c = d from UInt8.toNat_inj.1 (by omega)]

open Plain in
theorem esc_rest_all : ∀ n : Nat, n < 32 → n ≠ 8 → n ≠ 9 → n ≠ 10 → n ≠ 12 → n ≠ 13 → esc (UInt8.ofNat n) = [92, 117, 48, 48, Plain.hexDigit (UInt8.ofNat (n / 16)), Plain.hexDigit (UInt8.ofNat (n % 16))] := by
  intro n hn
  have : ∀ m : Fin 32, (m : Nat) ≠ 8 → (m : Nat) ≠ 9 → (m : Nat) ≠ 10 → (m : Nat) ≠ 12 → (m : Nat) ≠ 13 → Plain.esc (UInt8.ofNat m) = [92, 117, 48, 48, Plain.hexDigit (UInt8.ofNat (m / 16)), Plain.hexDigit (UInt8.ofNat (m % 16))] := by
    decide +kernel
  exact this ⟨n, hn⟩

theorem and15_all : ∀ n : Fin 32, bits BinOp.and IntKind.u8 ((n : Nat) : Int) 15 = (((n : Nat) % 16 : Nat) : Int) := by
  decide +kernel

theorem hex_at : ∀ n : Fin 16, (⟨#[48, 49, 50, 51, 52, 53, 54, 55, 56, 57, 97, 98, 99, 100, 101, 102]⟩ : ByteArray)[(n : Nat)]'(n.isLt) = Plain.hexDigit (UInt8.ofNat n) := by
  decide +kernel

theorem esc_rest {c : UInt8} (h : ¬ ((c.toNat : Int) = 34 ∨ (c.toNat : Int) = 92 ∨ 32 ≤ (c.toNat : Int) ∨ (c.toNat : Int) = 8 ∨ (c.toNat : Int) = 12 ∨ (c.toNat : Int) = 10 ∨ (c.toNat : Int) = 13 ∨ (c.toNat : Int) = 9))
    (h1 : ((c.toNat : Int) / 16).toNat < 16) (h2 : (bits BinOp.and IntKind.u8 (c.toNat : Int) 15).toNat < 16) :
    Plain.esc c = [92, 117, 48, 48, (⟨#[48, 49, 50, 51, 52, 53, 54, 55, 56, 57, 97, 98, 99, 100, 101, 102]⟩ : ByteArray)[((c.toNat : Int) / 16).toNat]'h1, (⟨#[48, 49, 50, 51, 52, 53, 54, 55, 56, 57, 97, 98, 99, 100, 101, 102]⟩ : ByteArray)[(bits BinOp.and IntKind.u8 (c.toNat : Int) 15).toNat]'h2] := by
  have e := esc_rest_all c.toNat (by omega) (by omega) (by omega) (by omega) (by omega) (by omega)
  rw [UInt8.ofNat_toNat] at e
  rw [e]
  have e1 := hex_at ⟨((c.toNat : Int) / 16).toNat, h1⟩
  have e2 := hex_at ⟨(bits BinOp.and IntKind.u8 (c.toNat : Int) 15).toNat, h2⟩
  have a1 := and15_all ⟨c.toNat, by omega⟩
  simp only at e1 e2 a1
  rw [e1, e2, a1]
  rw [show ((c.toNat : Int) / 16).toNat = c.toNat / 16 by omega, Int.toNat_natCast]

set_option maxHeartbeats 800000 in
theorem appendString (B : Nat) (s : ByteArray) (l : List UInt8) (v : Value) (w : World) (hown : Owns B w v l) (hB : B ≤ w.heap.size) (hlim : l.length + 6 * s.size + 2 ≤ 100000000000) :
    Calls Tryd.prog 25 #[v, .string s] w fun e w' => ∃ v', e = .returned v' ∧ Owns B w' v' (l ++ Plain.quoted (Plain.bs s)) ∧ Below B w w' := by
  go_enter Tryd.func25, Tryd.ntmps25
  go_wp2_with (at_builtin; refine wp_append_row rfl _ _ rfl B v l rfl (hown.alloc _) ⟨w.heap.size, 0, none⟩ [34] 1 rfl (by intro j hj; match j, hj with | 0, _ => simp [Addr.add]) (by simp; omega) (by simp; omega) ?_)
  intro v1 w1 hown1 hbel1
  have hb1 : Below B w w1 := ((Below.refl _ _).alloc hB _).trans hbel1
  clear hbel1 hown
  go_wp2
  go_loopw [0, 5] (fun d i wr => ∃ k : Nat, k ≤ s.size ∧ i = .int .i64 k ∧ Owns B wr d (l ++ 34 :: Plain.escs ((Plain.bs s).take k)) ∧ Below B w wr) (fun _ i _ => s.size - (intOf i).toNat)
  case atStart => exact ⟨0, Nat.zero_le _, rfl, hown1, hb1⟩
  case round =>
    clear hown1 hb1
    obtain ⟨k, hk, rfl, hown, hbel⟩ := hrel
    have hlen : (Plain.escs ((Plain.bs s).take k)).length ≤ 6 * k := Nat.le_trans (Plain.escs_le _) (Nat.mul_le_mul_left _ (List.length_take_le _ _))
    have hBr : B ≤ wr.heap.size := Nat.le_trans hB hbel.size
    have hL : (l ++ 34 :: Plain.escs ((Plain.bs s).take k)).length ≤ l.length + 6 * k + 1 := by simp; omega
    by_cases hlt : k < s.size
    · have hc : s[k].toNat < 256 := UInt8.toNat_lt s[k]
      have hrow : ∀ m, Plain.esc s[k] = m → (l ++ 34 :: Plain.escs ((Plain.bs s).take k)) ++ m = l ++ 34 :: Plain.escs ((Plain.bs s).take (k + 1)) := fun m hm => row_next hlt hm
      generalize hG : l ++ 34 :: Plain.escs ((Plain.bs s).take k) = G at hown hL hrow
      have HR : Hid (∀ m, Plain.esc s[k] = m → G ++ m = l ++ 34 :: Plain.escs ((Plain.bs s).take (k + 1))) := hrow
      clear hrow hG hlen
      by_cases c1 : (s[k].toNat : Int) = 34
      · have b1 : ((s[k].toNat : Int) == 34) = true := beq_iff_eq.2 c1
        have C1 : Hid ((s[k].toNat : Int) = 34) := c1
        clear c1
        go_wp2_with (at_builtin; refine wp_append_row rfl _ _ rfl B _ G rfl (hown.alloc _) ⟨wr.heap.size, 0, none⟩ [92, s[k]] 2 rfl (by intro j hj; match j, hj with | 0, _ => simp [Addr.add] | 1, _ => simp [Addr.add]) (by simp; omega) (by simp; omega) ?_)
        intro v' w' ho' hb'
        go_wp2
        go_roundw
        case rel => exact ⟨k + 1, by omega, by go_num, by rw [← HR.out _ (esc_quote (.inl C1.out))]; exact ho', (hbel.alloc hBr _).trans hb'⟩
        case measure => simp [intOf]; omega
      have b1 : ((s[k].toNat : Int) == 34) = false := beq_eq_false_iff_ne.2 c1
      by_cases c2 : (s[k].toNat : Int) = 92
      · have b2 : ((s[k].toNat : Int) == 92) = true := beq_iff_eq.2 c2
        have C2 : Hid ((s[k].toNat : Int) = 92) := c2
        clear c2
        go_wp2_with (at_builtin; refine wp_append_row rfl _ _ rfl B _ G rfl (hown.alloc _) ⟨wr.heap.size, 0, none⟩ [92, s[k]] 2 rfl (by intro j hj; match j, hj with | 0, _ => simp [Addr.add] | 1, _ => simp [Addr.add]) (by simp; omega) (by simp; omega) ?_)
        intro v' w' ho' hb'
        go_wp2
        go_roundw
        case rel => exact ⟨k + 1, by omega, by go_num, by rw [← HR.out _ (esc_quote (.inr C2.out))]; exact ho', (hbel.alloc hBr _).trans hb'⟩
        case measure => simp [intOf]; omega
      have b2 : ((s[k].toNat : Int) == 92) = false := beq_eq_false_iff_ne.2 c2
      by_cases c3 : 32 ≤ (s[k].toNat : Int)
      · go_wp2_with (at_builtin; refine wp_append_row rfl _ _ rfl B _ G rfl (hown.alloc _) ⟨wr.heap.size, 0, none⟩ [s[k]] 1 rfl (by intro j hj; match j, hj with | 0, _ => simp [Addr.add]) (by simp; omega) (by simp; omega) ?_)
        intro v' w' ho' hb'
        go_wp2
        go_roundw
        case rel => exact ⟨k + 1, by omega, by go_num, by rw [← HR.out _ (esc_plain c1 c2 c3)]; exact ho', (hbel.alloc hBr _).trans hb'⟩
        case measure => simp [intOf]; omega
      by_cases c4 : (s[k].toNat : Int) = 8
      · have b4 : ((s[k].toNat : Int) == 8) = true := beq_iff_eq.2 c4
        have C4 : Hid ((s[k].toNat : Int) = 8) := c4
        clear c4
        go_wp2_with (at_builtin; refine wp_append_str rfl _ _ rfl B _ G rfl hown ⟨#[92, 98]⟩ rfl (by show _ + 2 ≤ _; omega) hBr ?_)
        intro v' w' ho' hb'
        go_wp2
        go_roundw
        case rel => exact ⟨k + 1, by omega, by go_num, by rw [← HR.out _ (esc_low (d := 8) C4.out)]; exact ho', hbel.trans hb'⟩
        case measure => simp [intOf]; omega
      have b4 : ((s[k].toNat : Int) == 8) = false := beq_eq_false_iff_ne.2 c4
      by_cases c5 : (s[k].toNat : Int) = 12
      · have b5 : ((s[k].toNat : Int) == 12) = true := beq_iff_eq.2 c5
        have C5 : Hid ((s[k].toNat : Int) = 12) := c5
        clear c5
        go_wp2_with (at_builtin; refine wp_append_str rfl _ _ rfl B _ G rfl hown ⟨#[92, 102]⟩ rfl (by show _ + 2 ≤ _; omega) hBr ?_)
        intro v' w' ho' hb'
        go_wp2
        go_roundw
        case rel => exact ⟨k + 1, by omega, by go_num, by rw [← HR.out _ (esc_low (d := 12) C5.out)]; exact ho', hbel.trans hb'⟩
        case measure => simp [intOf]; omega
      have b5 : ((s[k].toNat : Int) == 12) = false := beq_eq_false_iff_ne.2 c5
      by_cases c6 : (s[k].toNat : Int) = 10
      · have b6 : ((s[k].toNat : Int) == 10) = true := beq_iff_eq.2 c6
        have C6 : Hid ((s[k].toNat : Int) = 10) := c6
        clear c6
        go_wp2_with (at_builtin; refine wp_append_str rfl _ _ rfl B _ G rfl hown ⟨#[92, 110]⟩ rfl (by show _ + 2 ≤ _; omega) hBr ?_)
        intro v' w' ho' hb'
        go_wp2
        go_roundw
        case rel => exact ⟨k + 1, by omega, by go_num, by rw [← HR.out _ (esc_low (d := 10) C6.out)]; exact ho', hbel.trans hb'⟩
        case measure => simp [intOf]; omega
      have b6 : ((s[k].toNat : Int) == 10) = false := beq_eq_false_iff_ne.2 c6
      by_cases c7 : (s[k].toNat : Int) = 13
      · have b7 : ((s[k].toNat : Int) == 13) = true := beq_iff_eq.2 c7
        have C7 : Hid ((s[k].toNat : Int) = 13) := c7
        clear c7
        go_wp2_with (at_builtin; refine wp_append_str rfl _ _ rfl B _ G rfl hown ⟨#[92, 114]⟩ rfl (by show _ + 2 ≤ _; omega) hBr ?_)
        intro v' w' ho' hb'
        go_wp2
        go_roundw
        case rel => exact ⟨k + 1, by omega, by go_num, by rw [← HR.out _ (esc_low (d := 13) C7.out)]; exact ho', hbel.trans hb'⟩
        case measure => simp [intOf]; omega
      have b7 : ((s[k].toNat : Int) == 13) = false := beq_eq_false_iff_ne.2 c7
      by_cases c8 : (s[k].toNat : Int) = 9
      · have b8 : ((s[k].toNat : Int) == 9) = true := beq_iff_eq.2 c8
        have C8 : Hid ((s[k].toNat : Int) = 9) := c8
        clear c8
        go_wp2_with (at_builtin; refine wp_append_str rfl _ _ rfl B _ G rfl hown ⟨#[92, 116]⟩ rfl (by show _ + 2 ≤ _; omega) hBr ?_)
        intro v' w' ho' hb'
        go_wp2
        go_roundw
        case rel => exact ⟨k + 1, by omega, by go_num, by rw [← HR.out _ (esc_low (d := 9) C8.out)]; exact ho', hbel.trans hb'⟩
        case measure => simp [intOf]; omega
      have b8 : ((s[k].toNat : Int) == 9) = false := beq_eq_false_iff_ne.2 c8
      have hh : ¬ ((s[k].toNat : Int) = 34 ∨ (s[k].toNat : Int) = 92 ∨ 32 ≤ (s[k].toNat : Int) ∨ (s[k].toNat : Int) = 8 ∨ (s[k].toNat : Int) = 12 ∨ (s[k].toNat : Int) = 10 ∨ (s[k].toNat : Int) = 13 ∨ (s[k].toNat : Int) = 9) := by omega
      have d1 : 0 ≤ (s[k].toNat : Int) / 16 := by omega
      have d2 : (s[k].toNat : Int) / 16 < 16 := by omega
      have a15 := and15_all ⟨s[k].toNat, by omega⟩
      simp only at a15
      have d3 : 0 ≤ bits BinOp.and IntKind.u8 (s[k].toNat : Int) 15 := by rw [a15]; omega
      have d4 : bits BinOp.and IntKind.u8 (s[k].toNat : Int) 15 < 16 := by rw [a15]; omega
      clear a15
      have d5 : ((s[k].toNat : Int) / 16).toNat < 16 := by omega
      have d6 : (bits BinOp.and IntKind.u8 (s[k].toNat : Int) 15).toNat < 16 := by omega
      have hE : Hid (Plain.esc s[k] = [92, 117, 48, 48, (⟨#[48, 49, 50, 51, 52, 53, 54, 55, 56, 57, 97, 98, 99, 100, 101, 102]⟩ : ByteArray)[((s[k].toNat : Int) / 16).toNat]'d5, (⟨#[48, 49, 50, 51, 52, 53, 54, 55, 56, 57, 97, 98, 99, 100, 101, 102]⟩ : ByteArray)[(bits BinOp.and IntKind.u8 (s[k].toNat : Int) 15).toNat]'d6]) := esc_rest hh d5 d6
      go_wp2
      go_region_law (refine step_append_row rfl _ _ rfl B _ G rfl (by exact (hown.alloc _).drew) ⟨wr.heap.size, 0, none⟩ [92, 117, 48, 48, (⟨#[48, 49, 50, 51, 52, 53, 54, 55, 56, 57, 97, 98, 99, 100, 101, 102]⟩ : ByteArray)[((s[k].toNat : Int) / 16).toNat]'d5, (⟨#[48, 49, 50, 51, 52, 53, 54, 55, 56, 57, 97, 98, 99, 100, 101, 102]⟩ : ByteArray)[(bits BinOp.and IntKind.u8 (s[k].toNat : Int) 15).toNat]'d6] 6 rfl (by intro j hj; match j, hj with | 0, _ => simp [Addr.add] | 1, _ => simp [Addr.add] | 2, _ => simp [Addr.add] | 3, _ => simp [Addr.add] | 4, _ => simp [Addr.add] | 5, _ => simp [Addr.add]) (by simp; omega) (by simp; omega) ?_; intro v' w' ho' hb')
      all_goals
        go_wp2
        go_roundw
        case rel => exact ⟨k + 1, by omega, by go_num, by rw [← HR.out _ hE.out]; exact ho', ((hbel.alloc hBr _).drew).trans hb'⟩
        case measure => simp [intOf]; omega
    · go_wp2_with (at_builtin; refine wp_append_row rfl _ _ rfl B _ (l ++ 34 :: Plain.escs ((Plain.bs s).take k)) rfl (hown.alloc _) ⟨wr.heap.size, 0, none⟩ [34] 1 rfl (by intro j hj; match j, hj with | 0, _ => simp [Addr.add]) (by simp; omega) (by simp; omega) ?_)
      intro v' w' ho' hb'
      have hfin : Owns B w' v' (l ++ Plain.quoted (Plain.bs s)) := by
        have e : l ++ 34 :: (Plain.escs ((Plain.bs s).take k) ++ [34]) = l ++ Plain.quoted (Plain.bs s) := by
          rw [List.take_of_length_le (by rw [bs_length]; omega)]
          rfl
        rw [← e]
        exact ho'
      go_wp2
      go_ret
      exact ⟨v', rfl, hfin, (hbel.alloc hBr _).trans hb'⟩

/-- canon.AppendString. -/
theorem appendString17 (B : Nat) (s : ByteArray) (l : List UInt8) (v : Value) (w : World) (hown : Owns B w v l) (hB : B ≤ w.heap.size) (hlim : l.length + 6 * s.size + 2 ≤ 100000000000) :
    Calls Tryd.prog 17 #[v, .string s] w fun e w' => ∃ v', e = .returned v' ∧ Owns B w' v' (l ++ Plain.quoted (Plain.bs s)) ∧ Below B w w' := by
  go_enter Tryd.func17, Tryd.ntmps17
  go_wp2_with (go_at_call 25; refine (appendString B s l v w hown hB hlim).mono ?_; rintro e w1 ⟨v1, rfl, ho, hb⟩)
  go_ret
  exact ⟨v1, rfl, ho, hb⟩
end Go.Proofs.Qxb6600084aDoor
