/-
  EntryLine.
-/
import Derived.Test.Qxb6600084aDoorWalksD
import Derived.Lib.SlBytesConst
import Derived.ArgAppend
namespace Go.Proofs.Qxb6600084aDoor
open Go.RowKit

theorem run_append_nothing (w : World) (ty : TypeId) (b : Addr) (n cap : Nat) (hn : n ≤ cap) (x : Option Addr) (c : Nat) :
    (Builtin.append_ #[22, 22] ty #[.slice (some b) n cap, .slice x 0 c]).run Tryd.prog w = .ok (.slice (some b) n cap) w := by
  obtain ⟨i0, hi, hz0, hz1, hz2⟩ := info_parts info5
  cases x with
  | none => simp [Builtin.append_, run_underlying Tryd.underlying22, sizeOf, typeInfo, hi, Builtin.lenOf, Builtin.firstCells, hn, storeCells]
  | some g =>
    have hf := run_firstCells_some (P := Tryd.prog) w i0.size 0 g 0 c [] (by simp) (by simp)
    simp [Builtin.append_, run_underlying Tryd.underlying22, sizeOf, typeInfo, hi, Builtin.lenOf, hn, hf, storeCells]

/-- 'append(x, y...)', y empty: nothing turns. -/
theorem wp_append_nothing {w : World} {ops : Array Oper} {rest : List Oper} {o : Oper} {a : Act} {Q : Exit → Act → World → Prop} (hgd : o.guard = none) (s x : Operand)
    (ho : o.op = .call { callee := .builtin .append, args := #[s, x], argTypes := #[22, 22] }) (b : Addr) (n cap : Nat) (hs : a.eval s = .slice (some b) n cap) (hn : n ≤ cap) (y : Option Addr) (c : Nat) (hx : a.eval x = .slice y 0 c)
    (K : wpList Tryd.prog ops Q rest (a.put o.dst (.slice (some b) n cap)) w) : wpList Tryd.prog ops Q (o :: rest) a w := by
  refine wpList_plain hgd fun K' hK => ?_
  have hr := run_append_nothing w o.type b n cap hn y c
  unfold Oper.wp execOp
  simp only [ho, resolve, invoke, builtin, Sem.run_bind, Sem.run_pure, Result.andThen_ok, List.map_toArray, List.map_cons, List.map_nil, hs, hx, hr]
  exact hK _ _ K

/-- 'append(x, y...)', x a row without room, y not empty. -/
theorem wp_append_full {w : World} {ops : Array Oper} {rest : List Oper} {o : Oper} {a : Act} {Q : Exit → Act → World → Prop} (hgd : o.guard = none) (s x : Operand)
    (ho : o.op = .call { callee := .builtin .append, args := #[s, x], argTypes := #[22, 22] }) (B : Nat) (b : Addr) (l : List UInt8) (hs : a.eval s = .slice (some b) l.length l.length) (hold : ∀ j (hj : j < l.length), w.cell? (b.add j) = some (.int .u8 (l[j].toNat : Int)))
    (ad : Addr) (m : List UInt8) (c : Nat) (hx : a.eval x = .slice (some ad) m.length c) (hc : ∀ j (hj : j < m.length), w.cell? (ad.add j) = some (.int .u8 (m[j].toNat : Int)))
    (hm : m ≠ []) (hlim : l.length + m.length ≤ 1000000000000) (hB : B ≤ w.heap.size)
    (K : ∀ v' w', Owns B w' v' (l ++ m) → Below B w w' → wpList Tryd.prog ops Q rest (a.put o.dst v') w') : wpList Tryd.prog ops Q (o :: rest) a w := by
  obtain ⟨i0, hi, hz0, hz1, hz2⟩ := info_parts info5
  have hpos : 0 < m.length := List.length_pos_iff.2 hm
  have cells : ∀ (d : Addr) (k : List UInt8), (∀ j (hj : j < k.length), w.cell? (d.add j) = some (.int .u8 (k[j].toNat : Int))) → ∀ j u, (Lib.byteCells k)[j]? = some u → w.cell? (d.add j) = some u := by
    intro d k h j u hj
    have hl : j < k.length := by
      have := (List.getElem?_eq_some_iff.1 hj).1
      simpa [Lib.byteCells] using this
    rw [h j hl]
    simp [Lib.byteCells, hl] at hj
    rw [← hj]
  refine wpList_append_grows w hgd s x 22 ho 5 i0 (.int .u8 0) 1 1 Tryd.underlying22 hi hz0 hz1 hz2 rfl (by decide) (some b) l.length l.length (Lib.byteCells l) hs (by simp) (by simp [Lib.byteCells]) ?_ ad m.length c (Lib.byteCells m) hx (by simp [Lib.byteCells]) (cells ad m hc) ?_ (by omega) (by unfold maxLen; omega) (by omega) ?_
  · intro b' hb'
    cases hb'
    exact cells b l hold
  · intro u hu
    simp only [Lib.byteCells, List.mem_map] at hu
    obtain ⟨b, _, rfl⟩ := hu
    rfl
  · intro v' w' h1 h2
    refine K v' w' ?_ ((Below.refl _ _).grown h2 hB (by intro k hk; cases hk))
    have h3 := owns_append rfl rfl h1
    refine ⟨h3.1, ?_⟩
    rcases h3.2 with h0 | ⟨g, cap, cur, hv, hg, r⟩
    · exact .inl h0
    · exact .inr ⟨g, cap, cur, hv, Nat.le_trans hB hg, r⟩

/-- A string that is not empty appended to a row without room. -/
theorem wp_append_str_full {w : World} {ops : Array Oper} {rest : List Oper} {o : Oper} {a : Act} {Q : Exit → Act → World → Prop} (hgd : o.guard = none) (s x : Operand)
    (ho : o.op = .call { callee := .builtin .append, args := #[s, x], argTypes := #[22, 9] }) (B : Nat) (b : Addr) (l : List UInt8) (hs : a.eval s = .slice (some b) l.length l.length) (hold : ∀ j (hj : j < l.length), w.cell? (b.add j) = some (.int .u8 (l[j].toNat : Int)))
    (m : ByteArray) (hx : a.eval x = .string m) (hm : 0 < m.size) (hlim : l.length + m.size ≤ 1000000000000) (hB : B ≤ w.heap.size)
    (K : ∀ v' w', Owns B w' v' (l ++ Plain.bs m) → Below B w w' → wpList Tryd.prog ops Q rest (a.put o.dst v') w') : wpList Tryd.prog ops Q (o :: rest) a w := by
  obtain ⟨i0, hi, hz0, hz1, hz2⟩ := info_parts info5
  have hcl : (Lib.byteCells l).length = l.length := Lib.byteCells_length l
  have cells : ∀ j u, (Lib.byteCells l)[j]? = some u → w.cell? (b.add j) = some u := by
    intro j u hj
    have hl : j < l.length := by
      have := (List.getElem?_eq_some_iff.1 hj).1
      simpa [Lib.byteCells] using this
    rw [hold j hl]
    simp [Lib.byteCells, hl] at hj
    rw [← hj]
  refine wpList_plain hgd fun K' hK => ?_
  have hr := Lib.run_append_grow_string (P := Tryd.prog) w 22 9 o.type 5 i0 (.int .u8 0) Tryd.underlying22 Tryd.underlying9 hi hz0 b l.length l.length (Lib.byteCells l) (by rw [hz1, hcl, Nat.mul_one]) cells m (by omega) (by omega) (by rw [hz2]; exact growslice_fits (by omega) (by omega))
  unfold Oper.wp execOp
  simp only [ho, resolve, invoke, builtin, Sem.run_bind, Sem.run_pure, Result.andThen_ok, List.map_toArray, List.map_cons, List.map_nil, hs, hx, hr]
  refine hK _ _ (K _ _ ?_ ?_)
  · have hge := grownCap_ge w (l.length + m.size) l.length 5
    have hcm : grownCap w (l.length + m.size) l.length 5 ≤ maxLen := grownCap_le_maxLen w (l.length + m.size) l.length 5 (by unfold maxLen; omega)
    have hlen : (Lib.byteCells l ++ Lib.strCells m).length = (l.length + m.size) * 1 := by rw [List.length_append, hcl, Lib.strCells_length, Nat.mul_one]
    refine owns_append (bs_length m).symm (Lib.strCells_eq m) ⟨hlen, .inr ⟨w.heap.size, _, _, rfl, hB, heap_alloc_new w.drew _, hge, hcm, ?_, ?_⟩⟩
    · have hz1 : (Value.int IntKind.u8 0).cells.size = 1 := rfl
      simp only [Array.size_append, List.size_toArray, size_zeroCells, hz1, hcl, Lib.strCells_length]
      omega
    · simp only [Array.toList_append, List.append_assoc]
      rw [← List.append_assoc, ← hlen]
      exact List.take_left
  · exact (Below.refl _ _).drew.alloc hB _

theorem form_len (z : Plain.Z) : (Plain.form z).length = 124 + (Plain.quoted Plain.kEd).length + (Plain.quoted (Plain.bs z.chain)).length + (Plain.quoted (Plain.bs z.content)).length + (Plain.quoted (Plain.bs z.key)).length + (Plain.quoted (Plain.bs z.nonce)).length + (Plain.quoted (Plain.bs z.prev)).length
    + (Lib.itoa z.seq).length + (Plain.quoted (Plain.bs z.signature)).length + (Plain.quoted (Plain.bs z.signedAt)).length + (Plain.quoted (Plain.bs z.stream)).length + (Lib.itoa 1).length := by
  unfold Plain.form
  rw [List.length_append, List.length_append, List.length_append, List.length_append, List.length_append, List.length_append, List.length_append, List.length_append, List.length_append, List.length_append, List.length_append, List.length_append, List.length_append, List.length_append, List.length_append, List.length_append, List.length_append, List.length_append, List.length_append, List.length_append, List.length_append, List.length_append]
  generalize (Lib.itoa 1).length = x1
  generalize (Lib.itoa z.seq).length = x2
  generalize (Plain.quoted (Plain.bs z.stream)).length = y0
  generalize (Plain.quoted (Plain.bs z.content)).length = y1
  generalize (Plain.quoted (Plain.bs z.prev)).length = y2
  generalize (Plain.quoted (Plain.bs z.chain)).length = y3
  generalize (Plain.quoted (Plain.bs z.key)).length = y4
  generalize (Plain.quoted (Plain.bs z.nonce)).length = y5
  generalize (Plain.quoted (Plain.bs z.signedAt)).length = y6
  generalize (Plain.quoted (Plain.bs z.signature)).length = y7
  generalize (Plain.quoted Plain.kEd).length = y8
  show 7 + (y8 + (14 + (y3 + (16 + (y1 + (10 + (y4 + (9 + (y5 + (19 + (y2 + (7 + (x2 + (13 + (y7 + (13 + (y6 + (10 + (y0 + (5 + (x1 + 1))))))))))))))))))))) = _
  omega

theorem form_le (z : Plain.Z) (h0 : -9223372036854775808 ≤ z.seq) (h1 : z.seq ≤ 9223372036854775807) (hs : z.stream.size + z.content.size + z.prev.size + z.chain.size + z.key.size + z.nonce.size + z.signedAt.size + z.signature.size ≤ 1048576) :
    (Plain.form z).length ≤ 7000000 := by
  have e : ∀ s, (Plain.quoted (Plain.bs s)).length ≤ 6 * s.size + 2 := fun s => by
    have := Plain.quoted_le (Plain.bs s)
    rw [bs_length] at this
    exact this
  have a0 := e z.stream
  have a1 := e z.content
  have a2 := e z.prev
  have a3 := e z.chain
  have a4 := e z.key
  have a5 := e z.nonce
  have a6 := e z.signedAt
  have a7 := e z.signature
  have i0 := Lib.itoa_length_le z.seq h0 h1
  have i1 := Lib.itoa_length_le 1 (by decide) (by decide)
  have q1 : (Plain.quoted Plain.kEd).length ≤ 6 * 7 + 2 := Plain.quoted_le Plain.kEd
  rw [form_len]
  clear e h0 h1
  generalize (Lib.itoa 1).length = x1 at *
  generalize (Lib.itoa z.seq).length = x2 at *
  generalize (Plain.quoted (Plain.bs z.stream)).length = y0 at *
  generalize (Plain.quoted (Plain.bs z.content)).length = y1 at *
  generalize (Plain.quoted (Plain.bs z.prev)).length = y2 at *
  generalize (Plain.quoted (Plain.bs z.chain)).length = y3 at *
  generalize (Plain.quoted (Plain.bs z.key)).length = y4 at *
  generalize (Plain.quoted (Plain.bs z.nonce)).length = y5 at *
  generalize (Plain.quoted (Plain.bs z.signedAt)).length = y6 at *
  generalize (Plain.quoted (Plain.bs z.signature)).length = y7 at *
  generalize (Plain.quoted Plain.kEd).length = y8 at *
  omega

theorem start_cells (w : World) : ∀ j (hj : j < Plain.kStart.length), (w.alloc (.cells #[.int .u8 123, .int .u8 34, .int .u8 114, .int .u8 101, .int .u8 99, .int .u8 111, .int .u8 114, .int .u8 100, .int .u8 34, .int .u8 58] 5 (10, 11))).cell? ((⟨w.heap.size, 0, none⟩ : Addr).add j) = some (.int .u8 (Plain.kStart[j].toNat : Int)) := by
  intro j hj
  have hadd : (⟨w.heap.size, 0, none⟩ : Addr).add j = ⟨w.heap.size, j, none⟩ := by unfold Addr.add; split <;> simp_all
  rw [hadd, World.cell?_alloc_mark]
  match j, hj with
  | 0, _ => rfl
  | 1, _ => rfl
  | 2, _ => rfl
  | 3, _ => rfl
  | 4, _ => rfl
  | 5, _ => rfl
  | 6, _ => rfl
  | 7, _ => rfl
  | 8, _ => rfl
  | 9, _ => rfl
  | k + 10, h => exact absurd h (by show ¬ k + 10 < 10; omega)

set_option maxHeartbeats 800000 in
theorem entry_empty (y : Option Addr) (c : Nat) (p : Nat) (s0 s2 s3 s4 s5 s6 s7 s8 : ByteArray) (q : Int) (w : World) (hq0 : -9223372036854775808 ≤ q) (hq1 : q ≤ 9223372036854775807)
    (hp : p < w.heap.size) (hs : s0.size + s2.size + s3.size + s4.size + s5.size + s6.size + s7.size + s8.size ≤ 1048576) (htab : Lib.TabIs Tryd.prog w powName .u64 Lib.pow10Tab)
    (p0 : w.cell? ⟨p, 0, none⟩ = some (.string s0)) (p1 : w.cell? ⟨p, 1, none⟩ = some (.int .i64 q)) (p2 : w.cell? ⟨p, 2, none⟩ = some (.string s2)) (p3 : w.cell? ⟨p, 3, none⟩ = some (.string s3)) (p4 : w.cell? ⟨p, 4, none⟩ = some (.string s4)) (p5 : w.cell? ⟨p, 5, none⟩ = some (.string s5)) (p6 : w.cell? ⟨p, 6, none⟩ = some (.string s6)) (p7 : w.cell? ⟨p, 7, none⟩ = some (.string s7)) (p8 : w.cell? ⟨p, 8, none⟩ = some (.string s8)) :
    Calls Tryd.prog 21 #[.slice y 0 c, .pointer (some ⟨p, 0, none⟩)] w fun e w' => ∃ v', e = .returned v' ∧ Owns w.heap.size w' v' (Plain.entry [] ⟨s0, q, s2, s3, s4, s5, s6, s7, s8⟩) ∧ Below w.heap.size w w' := by
  have kc := fun (w : World) (C : Array Value) (n c : Nat) => Lib.run_convert_bytes_const (P := Tryd.prog) w 22 5 C n c Tryd.underlying22 Tryd.underlying5
  have hT := Lib.tabBelow_of_tabIs htab
  obtain ⟨r, hr⟩ : ∃ r : List UInt8, r = [] := ⟨_, rfl⟩
  rw [← hr]
  have HR : Hid (r = []) := hr
  clear hr
  go_enter Tryd.func21, Tryd.ntmps21
  go_wp2_with (first | (at_builtin; refine wp_append_nothing rfl (.tmp 7) (.tmp 8) rfl ⟨w.heap.size, 0, none⟩ 10 10 rfl (Nat.le_refl _) y c rfl ?_) | (at_builtin; refine wp_append_str_full rfl (.tmp 11) _ rfl w.heap.size ⟨w.heap.size, 0, none⟩ Plain.kStart rfl (start_cells w) ⟨#[44, 34, 115, 101, 97, 108, 34, 58]⟩ rfl (by decide) (by decide) (by simp) ?_))
  intro v2 w2 o2' b2
  have o2 : Owns w.heap.size w2 v2 (Plain.kStart ++ Plain.kSeal) := o2'
  have hb2 : Below w.heap.size w w2 := ((Below.refl _ _).alloc (Nat.le_refl _) _).trans b2
  clear b2 o2'
  obtain ⟨L2, hL2⟩ : ∃ L, L = Plain.kStart ++ (r ++ Plain.kSeal) := ⟨_, rfl⟩
  have e2 : Plain.kStart ++ Plain.kSeal = L2 := by rw [hL2, HR.out]; rfl
  rw [e2] at o2
  have hl2 : L2.length ≤ 10000000 := by rw [← e2]; decide
  have HL2 : Hid (L2 = Plain.kStart ++ (r ++ Plain.kSeal)) := hL2
  clear hL2 e2
  have hB2 : w.heap.size ≤ w2.heap.size := hb2.size
  go_wp2_with (go_at_call 24; refine (appendForm w.heap.size p s0 s2 s3 s4 s5 s6 s7 s8 q L2 v2 w2 hq0 hq1 o2 hB2 hp hl2 hs (hT.on hb2) ((hb2.cell (by exact hp)).trans p0) ((hb2.cell (by exact hp)).trans p1) ((hb2.cell (by exact hp)).trans p2) ((hb2.cell (by exact hp)).trans p3) ((hb2.cell (by exact hp)).trans p4) ((hb2.cell (by exact hp)).trans p5) ((hb2.cell (by exact hp)).trans p6) ((hb2.cell (by exact hp)).trans p7) ((hb2.cell (by exact hp)).trans p8)).mono ?_; rintro e w3 ⟨v3, rfl, o3, b3⟩; refine Hid.out ?_)
  refine Lib.hid ?_
  have hb3 : Below w.heap.size w w3 := hb2.trans b3
  obtain ⟨L3, hL3⟩ : ∃ L, L = L2 ++ Plain.form ⟨s0, q, s2, s3, s4, s5, s6, s7, s8⟩ := ⟨_, rfl⟩
  have hl3 : L3.length ≤ 100000000 := by rw [hL3, List.length_append]; have := form_le ⟨s0, q, s2, s3, s4, s5, s6, s7, s8⟩ hq0 hq1 hs; omega
  rw [← hL3] at o3
  have HL3 : Hid (L3 = L2 ++ Plain.form ⟨s0, q, s2, s3, s4, s5, s6, s7, s8⟩) := hL3
  have hB3 : w.heap.size ≤ w3.heap.size := hb3.size
  clear hL3 o2 b3 hb2 hl2 hB2
  go_wp2_with (at_builtin; refine wp_append_str rfl _ _ rfl w.heap.size _ L3 rfl o3 ⟨#[125, 10]⟩ rfl (by show _ + 2 ≤ _; omega) hB3 ?_)
  intro v4 w4 o4 b4
  have hfin : Owns w.heap.size w4 v4 (Plain.entry r ⟨s0, q, s2, s3, s4, s5, s6, s7, s8⟩) := by
    have e : L3 ++ Plain.bs ⟨#[125, 10]⟩ = Plain.entry r ⟨s0, q, s2, s3, s4, s5, s6, s7, s8⟩ := by
      rw [HL3.out, HL2.out]
      show _ ++ Plain.kEnd = _
      simp only [Plain.entry, List.append_assoc]
    rw [← e]
    exact o4
  go_wp2
  go_ret
  exact ⟨v4, rfl, hfin, hb3.trans b4⟩

set_option maxHeartbeats 800000 in
theorem entry_row (g c : Nat) (r : List UInt8) (p : Nat) (s0 s2 s3 s4 s5 s6 s7 s8 : ByteArray) (q : Int) (w : World) (hq0 : -9223372036854775808 ≤ q) (hq1 : q ≤ 9223372036854775807)
    (hp : p < w.heap.size) (hs : s0.size + s2.size + s3.size + s4.size + s5.size + s6.size + s7.size + s8.size ≤ 1048576) (htab : Lib.TabIs Tryd.prog w powName .u64 Lib.pow10Tab)
    (p0 : w.cell? ⟨p, 0, none⟩ = some (.string s0)) (p1 : w.cell? ⟨p, 1, none⟩ = some (.int .i64 q)) (p2 : w.cell? ⟨p, 2, none⟩ = some (.string s2)) (p3 : w.cell? ⟨p, 3, none⟩ = some (.string s3)) (p4 : w.cell? ⟨p, 4, none⟩ = some (.string s4)) (p5 : w.cell? ⟨p, 5, none⟩ = some (.string s5)) (p6 : w.cell? ⟨p, 6, none⟩ = some (.string s6)) (p7 : w.cell? ⟨p, 7, none⟩ = some (.string s7)) (p8 : w.cell? ⟨p, 8, none⟩ = some (.string s8))
    (hr0 : r ≠ []) (hrl : r.length ≤ 1048576) (hc : ∀ j (hj : j < r.length), w.cell? ⟨g, j, none⟩ = some (.int .u8 (r[j].toNat : Int))) :
    Calls Tryd.prog 21 #[.slice (some ⟨g, 0, none⟩) r.length c, .pointer (some ⟨p, 0, none⟩)] w fun e w' => ∃ v', e = .returned v' ∧ Owns w.heap.size w' v' (Plain.entry r ⟨s0, q, s2, s3, s4, s5, s6, s7, s8⟩) ∧ Below w.heap.size w w' := by
  have kc := fun (w : World) (C : Array Value) (n c : Nat) => Lib.run_convert_bytes_const (P := Tryd.prog) w 22 5 C n c Tryd.underlying22 Tryd.underlying5
  have hT := Lib.tabBelow_of_tabIs htab
  have hc' : ∀ o, ∀ j (hj : j < r.length), (w.alloc o).cell? ((⟨g, 0, none⟩ : Addr).add j) = some (.int .u8 (r[j].toNat : Int)) := by
    intro o j hj
    have hadd : (⟨g, 0, none⟩ : Addr).add j = ⟨g, j, none⟩ := by unfold Addr.add; split <;> simp_all
    rw [hadd]
    exact Lib.cell?_alloc_marked o (hc j hj)
  have HC : Hid (∀ o, ∀ j (hj : j < r.length), (w.alloc o).cell? ((⟨g, 0, none⟩ : Addr).add j) = some (.int .u8 (r[j].toNat : Int))) := hc'
  clear hc hc'
  go_enter Tryd.func21, Tryd.ntmps21
  go_wp2_with (at_builtin; refine wp_append_full rfl (.tmp 7) (.tmp 8) rfl w.heap.size ⟨w.heap.size, 0, none⟩ Plain.kStart rfl (start_cells w) ⟨g, 0, none⟩ r c rfl (HC.out _) hr0 (by show 10 + _ ≤ _; omega) (by simp) ?_)
  intro v1 w1 o1 b1
  have hb1 : Below w.heap.size w w1 := ((Below.refl _ _).alloc (Nat.le_refl _) _).trans b1
  have hB1 : w.heap.size ≤ w1.heap.size := hb1.size
  have hl1 : (Plain.kStart ++ r).length ≤ 2000000 := by rw [List.length_append]; show 10 + _ ≤ _; omega
  clear b1
  go_wp2_with (at_builtin; refine wp_append_str rfl (.tmp 11) _ rfl w.heap.size _ (Plain.kStart ++ r) rfl o1 ⟨#[44, 34, 115, 101, 97, 108, 34, 58]⟩ rfl (by show _ + 8 ≤ _; omega) hB1 ?_)
  intro v2 w2 o2' b2
  have hb2 : Below w.heap.size w w2 := hb1.trans b2
  have o2 : Owns w.heap.size w2 v2 (Plain.kStart ++ (r ++ Plain.kSeal)) := o2'
  obtain ⟨L2, hL2⟩ : ∃ L, L = Plain.kStart ++ (r ++ Plain.kSeal) := ⟨_, rfl⟩
  rw [← hL2] at o2
  have hl2 : L2.length ≤ 10000000 := by rw [hL2, List.length_append, List.length_append]; show 10 + (_ + 8) ≤ _; omega
  have HL2 : Hid (L2 = Plain.kStart ++ (r ++ Plain.kSeal)) := hL2
  clear hL2 o1 b2 hb1 hB1 hl1 o2'
  have hB2 : w.heap.size ≤ w2.heap.size := hb2.size
  go_wp2_with (go_at_call 24; refine (appendForm w.heap.size p s0 s2 s3 s4 s5 s6 s7 s8 q L2 v2 w2 hq0 hq1 o2 hB2 hp hl2 hs (hT.on hb2) ((hb2.cell (by exact hp)).trans p0) ((hb2.cell (by exact hp)).trans p1) ((hb2.cell (by exact hp)).trans p2) ((hb2.cell (by exact hp)).trans p3) ((hb2.cell (by exact hp)).trans p4) ((hb2.cell (by exact hp)).trans p5) ((hb2.cell (by exact hp)).trans p6) ((hb2.cell (by exact hp)).trans p7) ((hb2.cell (by exact hp)).trans p8)).mono ?_; rintro e w3 ⟨v3, rfl, o3, b3⟩; refine Hid.out ?_)
  refine Lib.hid ?_
  have hb3 : Below w.heap.size w w3 := hb2.trans b3
  obtain ⟨L3, hL3⟩ : ∃ L, L = L2 ++ Plain.form ⟨s0, q, s2, s3, s4, s5, s6, s7, s8⟩ := ⟨_, rfl⟩
  have hl3 : L3.length ≤ 100000000 := by rw [hL3, List.length_append]; have := form_le ⟨s0, q, s2, s3, s4, s5, s6, s7, s8⟩ hq0 hq1 hs; omega
  rw [← hL3] at o3
  have HL3 : Hid (L3 = L2 ++ Plain.form ⟨s0, q, s2, s3, s4, s5, s6, s7, s8⟩) := hL3
  have hB3 : w.heap.size ≤ w3.heap.size := hb3.size
  clear hL3 o2 b3 hb2 hl2 hB2
  go_wp2_with (at_builtin; refine wp_append_str rfl _ _ rfl w.heap.size _ L3 rfl o3 ⟨#[125, 10]⟩ rfl (by show _ + 2 ≤ _; omega) hB3 ?_)
  intro v4 w4 o4 b4
  have hfin : Owns w.heap.size w4 v4 (Plain.entry r ⟨s0, q, s2, s3, s4, s5, s6, s7, s8⟩) := by
    have e : L3 ++ Plain.bs ⟨#[125, 10]⟩ = Plain.entry r ⟨s0, q, s2, s3, s4, s5, s6, s7, s8⟩ := by
      rw [HL3.out, HL2.out]
      show _ ++ Plain.kEnd = _
      simp only [Plain.entry, List.append_assoc]
    rw [← e]
    exact o4
  go_wp2
  go_ret
  exact ⟨v4, rfl, hfin, hb3.trans b4⟩

theorem entryLine {Br : Nat} {vr : Value} {r : List UInt8} (p : Nat) (s0 s2 s3 s4 s5 s6 s7 s8 : ByteArray) (q : Int) (w : World) (hq0 : -9223372036854775808 ≤ q) (hq1 : q ≤ 9223372036854775807)
    (hp : p < w.heap.size) (hs : s0.size + s2.size + s3.size + s4.size + s5.size + s6.size + s7.size + s8.size ≤ 1048576) (htab : Lib.TabIs Tryd.prog w powName .u64 Lib.pow10Tab)
    (p0 : w.cell? ⟨p, 0, none⟩ = some (.string s0)) (p1 : w.cell? ⟨p, 1, none⟩ = some (.int .i64 q)) (p2 : w.cell? ⟨p, 2, none⟩ = some (.string s2)) (p3 : w.cell? ⟨p, 3, none⟩ = some (.string s3)) (p4 : w.cell? ⟨p, 4, none⟩ = some (.string s4)) (p5 : w.cell? ⟨p, 5, none⟩ = some (.string s5)) (p6 : w.cell? ⟨p, 6, none⟩ = some (.string s6)) (p7 : w.cell? ⟨p, 7, none⟩ = some (.string s7)) (p8 : w.cell? ⟨p, 8, none⟩ = some (.string s8))
    (hr : Owns Br w vr r) (hrl : r.length ≤ 1048576) :
    Calls Tryd.prog 21 #[vr, .pointer (some ⟨p, 0, none⟩)] w fun e w' => ∃ v', e = .returned v' ∧ Owns w.heap.size w' v' (Plain.entry r ⟨s0, q, s2, s3, s4, s5, s6, s7, s8⟩) ∧ Below w.heap.size w w' := by
  rcases ownsBytes hr with ⟨rfl, rfl⟩ | ⟨g, cap, rfl, _, _, _, _, hc⟩
  · exact entry_empty none 0 p s0 s2 s3 s4 s5 s6 s7 s8 q w hq0 hq1 hp hs htab p0 p1 p2 p3 p4 p5 p6 p7 p8
  · by_cases h0 : r = []
    · subst h0
      exact entry_empty _ cap p s0 s2 s3 s4 s5 s6 s7 s8 q w hq0 hq1 hp hs htab p0 p1 p2 p3 p4 p5 p6 p7 p8
    · exact entry_row g cap r p s0 s2 s3 s4 s5 s6 s7 s8 q w hq0 hq1 hp hs htab p0 p1 p2 p3 p4 p5 p6 p7 p8 h0 hrl hc
end Go.Proofs.Qxb6600084aDoor
