/-
  (*Seal).appendForm, signed; EntryLine.
-/
import Derived.Test.Qxb6600084aDoorWalksC
import Derived.Test.Qxb6600084aDoorShelf
import Derived.Lib.ItoaLen
import Derived.Lib.Hide
namespace Go.Proofs.Qxb6600084aDoor
open Go.RowKit

/-- The table of powers of ten, by its name on the row's own list. -/
def powName : String := Rows.fnEntryLineIsOneLineRow.named.headD ""

/-- strconv.AppendInt at base 10. -/
theorem appendInt (B : Nat) (i : Int) (l : List UInt8) (v : Value) (w : World) (h0 : -9223372036854775808 ≤ i) (h1 : i ≤ 9223372036854775807) (hown : Owns B w v l) (hB : B ≤ w.heap.size) (hlim : l.length ≤ 100000000000)
    (htab : Lib.TabBelow Tryd.prog B w powName .u64 Lib.pow10Tab) :
    Calls Tryd.prog 26 #[v, .int .i64 i, .int .i64 10] w fun e w' => ∃ v', e = .returned v' ∧ Owns B w' v' (l ++ Lib.itoa i) ∧ Below B w w' := by
  refine (Any.strconv_AppendInt_10 Tryd.laysM176 B l.length i h0 h1 v (Lib.byteCells l) w hown hB (by omega) htab).mono ?_
  rintro e w' ⟨v', rfl, ho, hb, _⟩
  exact ⟨v', rfl, owns_append rfl rfl ho, hb⟩

set_option maxHeartbeats 1600000 in
theorem appendForm (B p : Nat) (s0 s2 s3 s4 s5 s6 s7 s8 : ByteArray) (q : Int) (l : List UInt8) (v : Value) (w : World) (hq0 : -9223372036854775808 ≤ q) (hq1 : q ≤ 9223372036854775807)
    (hown : Owns B w v l) (hB : B ≤ w.heap.size) (hp : p < B) (hlim : l.length ≤ 10000000) (hs : s0.size + s2.size + s3.size + s4.size + s5.size + s6.size + s7.size + s8.size ≤ 1048576)
    (htab : Lib.TabBelow Tryd.prog B w powName .u64 Lib.pow10Tab)
    (p0 : w.cell? ⟨p, 0, none⟩ = some (.string s0)) (p1 : w.cell? ⟨p, 1, none⟩ = some (.int .i64 q)) (p2 : w.cell? ⟨p, 2, none⟩ = some (.string s2)) (p3 : w.cell? ⟨p, 3, none⟩ = some (.string s3)) (p4 : w.cell? ⟨p, 4, none⟩ = some (.string s4))
    (p5 : w.cell? ⟨p, 5, none⟩ = some (.string s5)) (p6 : w.cell? ⟨p, 6, none⟩ = some (.string s6)) (p7 : w.cell? ⟨p, 7, none⟩ = some (.string s7)) (p8 : w.cell? ⟨p, 8, none⟩ = some (.string s8)) :
    Calls Tryd.prog 24 #[.pointer (some ⟨p, 0, none⟩), v, .bool true] w fun e w' => ∃ v', e = .returned v' ∧ Owns B w' v' (l ++ Plain.form ⟨s0, q, s2, s3, s4, s5, s6, s7, s8⟩) ∧ Below B w w' := by
  go_enter Tryd.func24, Tryd.ntmps24
  have hb0 : Below B w w := Below.refl _ _
  have hl0 : l.length ≤ 10000000 := hlim
  clear hlim
  have hB0 : B ≤ w.heap.size := Nat.le_trans hB hb0.size
  go_wp2_with (at_builtin; refine wp_append_str rfl _ _ rfl B _ l rfl hown ⟨#[123, 34, 97, 108, 103, 34, 58]⟩ rfl (by show _ + 7 ≤ _; omega) hB0 ?_)
  intro v1 w1 o1 b1
  have hl : (l ++ Plain.kAlg).length ≤ 17000000 := by rw [List.length_append]; show _ + 7 ≤ _; omega
  have o1 : Owns B w1 v1 (l ++ Plain.kAlg) := o1
  have hb1 : Below B w w1 := hb0.trans b1
  obtain ⟨L1, hL1⟩ : ∃ L, L = l ++ Plain.kAlg := ⟨_, rfl⟩
  rw [← hL1] at o1 hl
  have HL1 : Hid (L1 = l ++ Plain.kAlg) := hL1
  have hl1 : L1.length ≤ 17000000 := hl
  clear hL1 hl hl0 b1 hb0 hB0 hown
  have hB1 : B ≤ w1.heap.size := Nat.le_trans hB hb1.size
  go_wp2_with (go_at_call 17; refine (appendString17 B ⟨#[69, 100, 50, 53, 53, 49, 57]⟩ L1 _ _ o1 hB1 (by show _ + 6 * 7 + 2 ≤ _; omega)).mono ?_; rintro e w2 ⟨v2, rfl, o2, b2⟩; refine Hid.out ?_)
  refine Lib.hid ?_
  have hl : (L1 ++ Plain.quoted Plain.kEd).length ≤ 24000000 := by rw [List.length_append]; have := Plain.quoted_le Plain.kEd; have : Plain.kEd.length = 7 := rfl; omega
  have o2 : Owns B w2 v2 (L1 ++ Plain.quoted Plain.kEd) := o2
  have hb2 : Below B w w2 := hb1.trans b2
  obtain ⟨L2, hL2⟩ : ∃ L, L = L1 ++ Plain.quoted Plain.kEd := ⟨_, rfl⟩
  rw [← hL2] at o2 hl
  have HL2 : Hid (L2 = L1 ++ Plain.quoted Plain.kEd) := hL2
  have hl2 : L2.length ≤ 24000000 := hl
  clear hL2 hl hl1 b2 hb1 hB1 o1
  have hB2 : B ≤ w2.heap.size := Nat.le_trans hB hb2.size
  go_wp2_with (at_builtin; refine wp_append_str rfl _ _ rfl B _ L2 rfl o2 ⟨#[44, 34, 99, 104, 97, 105, 110, 95, 104, 97, 115, 104, 34, 58]⟩ rfl (by show _ + 14 ≤ _; omega) hB2 ?_)
  intro v3 w3 o3 b3
  have hl : (L2 ++ Plain.kChain).length ≤ 31000000 := by rw [List.length_append]; show _ + 14 ≤ _; omega
  have o3 : Owns B w3 v3 (L2 ++ Plain.kChain) := o3
  have hb3 : Below B w w3 := hb2.trans b3
  obtain ⟨L3, hL3⟩ : ∃ L, L = L2 ++ Plain.kChain := ⟨_, rfl⟩
  rw [← hL3] at o3 hl
  have HL3 : Hid (L3 = L2 ++ Plain.kChain) := hL3
  have hl3 : L3.length ≤ 31000000 := hl
  clear hL3 hl hl2 b3 hb2 hB2 o2
  have hB3 : B ≤ w3.heap.size := Nat.le_trans hB hb3.size
  have c4 : w3.cell? ⟨p, 4, none⟩ = some (.string s4) := (hb3.cell (by exact hp)).trans p4
  go_wp2_with (go_at_call 17; refine (appendString17 B s4 L3 _ _ o3 hB3 (by omega)).mono ?_; rintro e w4 ⟨v4, rfl, o4, b4⟩; refine Hid.out ?_)
  refine Lib.hid ?_
  have hl : (L3 ++ Plain.quoted (Plain.bs s4)).length ≤ 38000000 := by rw [List.length_append]; have := Plain.quoted_le (Plain.bs s4); rw [bs_length] at this; omega
  clear c4
  have hb4 : Below B w w4 := hb3.trans b4
  obtain ⟨L4, hL4⟩ : ∃ L, L = L3 ++ Plain.quoted (Plain.bs s4) := ⟨_, rfl⟩
  rw [← hL4] at o4 hl
  have HL4 : Hid (L4 = L3 ++ Plain.quoted (Plain.bs s4)) := hL4
  have hl4 : L4.length ≤ 38000000 := hl
  clear hL4 hl hl3 b4 hb3 hB3 o3
  have hB4 : B ≤ w4.heap.size := Nat.le_trans hB hb4.size
  go_wp2_with (at_builtin; refine wp_append_str rfl _ _ rfl B _ L4 rfl o4 ⟨#[44, 34, 99, 111, 110, 116, 101, 110, 116, 95, 104, 97, 115, 104, 34, 58]⟩ rfl (by show _ + 16 ≤ _; omega) hB4 ?_)
  intro v5 w5 o5 b5
  have hl : (L4 ++ Plain.kContent).length ≤ 45000000 := by rw [List.length_append]; show _ + 16 ≤ _; omega
  have o5 : Owns B w5 v5 (L4 ++ Plain.kContent) := o5
  have hb5 : Below B w w5 := hb4.trans b5
  obtain ⟨L5, hL5⟩ : ∃ L, L = L4 ++ Plain.kContent := ⟨_, rfl⟩
  rw [← hL5] at o5 hl
  have HL5 : Hid (L5 = L4 ++ Plain.kContent) := hL5
  have hl5 : L5.length ≤ 45000000 := hl
  clear hL5 hl hl4 b5 hb4 hB4 o4
  have hB5 : B ≤ w5.heap.size := Nat.le_trans hB hb5.size
  have c6 : w5.cell? ⟨p, 2, none⟩ = some (.string s2) := (hb5.cell (by exact hp)).trans p2
  go_wp2_with (go_at_call 17; refine (appendString17 B s2 L5 _ _ o5 hB5 (by omega)).mono ?_; rintro e w6 ⟨v6, rfl, o6, b6⟩; refine Hid.out ?_)
  refine Lib.hid ?_
  have hl : (L5 ++ Plain.quoted (Plain.bs s2)).length ≤ 52000000 := by rw [List.length_append]; have := Plain.quoted_le (Plain.bs s2); rw [bs_length] at this; omega
  clear c6
  have hb6 : Below B w w6 := hb5.trans b6
  obtain ⟨L6, hL6⟩ : ∃ L, L = L5 ++ Plain.quoted (Plain.bs s2) := ⟨_, rfl⟩
  rw [← hL6] at o6 hl
  have HL6 : Hid (L6 = L5 ++ Plain.quoted (Plain.bs s2)) := hL6
  have hl6 : L6.length ≤ 52000000 := hl
  clear hL6 hl hl5 b6 hb5 hB5 o5
  have hB6 : B ≤ w6.heap.size := Nat.le_trans hB hb6.size
  go_wp2_with (at_builtin; refine wp_append_str rfl _ _ rfl B _ L6 rfl o6 ⟨#[44, 34, 107, 101, 121, 95, 105, 100, 34, 58]⟩ rfl (by show _ + 10 ≤ _; omega) hB6 ?_)
  intro v7 w7 o7 b7
  have hl : (L6 ++ Plain.kKey).length ≤ 59000000 := by rw [List.length_append]; show _ + 10 ≤ _; omega
  have o7 : Owns B w7 v7 (L6 ++ Plain.kKey) := o7
  have hb7 : Below B w w7 := hb6.trans b7
  obtain ⟨L7, hL7⟩ : ∃ L, L = L6 ++ Plain.kKey := ⟨_, rfl⟩
  rw [← hL7] at o7 hl
  have HL7 : Hid (L7 = L6 ++ Plain.kKey) := hL7
  have hl7 : L7.length ≤ 59000000 := hl
  clear hL7 hl hl6 b7 hb6 hB6 o6
  have hB7 : B ≤ w7.heap.size := Nat.le_trans hB hb7.size
  have c8 : w7.cell? ⟨p, 5, none⟩ = some (.string s5) := (hb7.cell (by exact hp)).trans p5
  go_wp2_with (go_at_call 17; refine (appendString17 B s5 L7 _ _ o7 hB7 (by omega)).mono ?_; rintro e w8 ⟨v8, rfl, o8, b8⟩; refine Hid.out ?_)
  refine Lib.hid ?_
  have hl : (L7 ++ Plain.quoted (Plain.bs s5)).length ≤ 66000000 := by rw [List.length_append]; have := Plain.quoted_le (Plain.bs s5); rw [bs_length] at this; omega
  clear c8
  have hb8 : Below B w w8 := hb7.trans b8
  obtain ⟨L8, hL8⟩ : ∃ L, L = L7 ++ Plain.quoted (Plain.bs s5) := ⟨_, rfl⟩
  rw [← hL8] at o8 hl
  have HL8 : Hid (L8 = L7 ++ Plain.quoted (Plain.bs s5)) := hL8
  have hl8 : L8.length ≤ 66000000 := hl
  clear hL8 hl hl7 b8 hb7 hB7 o7
  have hB8 : B ≤ w8.heap.size := Nat.le_trans hB hb8.size
  go_wp2_with (at_builtin; refine wp_append_str rfl _ _ rfl B _ L8 rfl o8 ⟨#[44, 34, 110, 111, 110, 99, 101, 34, 58]⟩ rfl (by show _ + 9 ≤ _; omega) hB8 ?_)
  intro v9 w9 o9 b9
  have hl : (L8 ++ Plain.kNonce).length ≤ 73000000 := by rw [List.length_append]; show _ + 9 ≤ _; omega
  have o9 : Owns B w9 v9 (L8 ++ Plain.kNonce) := o9
  have hb9 : Below B w w9 := hb8.trans b9
  obtain ⟨L9, hL9⟩ : ∃ L, L = L8 ++ Plain.kNonce := ⟨_, rfl⟩
  rw [← hL9] at o9 hl
  have HL9 : Hid (L9 = L8 ++ Plain.kNonce) := hL9
  have hl9 : L9.length ≤ 73000000 := hl
  clear hL9 hl hl8 b9 hb8 hB8 o8
  have hB9 : B ≤ w9.heap.size := Nat.le_trans hB hb9.size
  have c10 : w9.cell? ⟨p, 6, none⟩ = some (.string s6) := (hb9.cell (by exact hp)).trans p6
  go_wp2_with (go_at_call 17; refine (appendString17 B s6 L9 _ _ o9 hB9 (by omega)).mono ?_; rintro e w10 ⟨v10, rfl, o10, b10⟩; refine Hid.out ?_)
  refine Lib.hid ?_
  have hl : (L9 ++ Plain.quoted (Plain.bs s6)).length ≤ 80000000 := by rw [List.length_append]; have := Plain.quoted_le (Plain.bs s6); rw [bs_length] at this; omega
  clear c10
  have hb10 : Below B w w10 := hb9.trans b10
  obtain ⟨L10, hL10⟩ : ∃ L, L = L9 ++ Plain.quoted (Plain.bs s6) := ⟨_, rfl⟩
  rw [← hL10] at o10 hl
  have HL10 : Hid (L10 = L9 ++ Plain.quoted (Plain.bs s6)) := hL10
  have hl10 : L10.length ≤ 80000000 := hl
  clear hL10 hl hl9 b10 hb9 hB9 o9
  have hB10 : B ≤ w10.heap.size := Nat.le_trans hB hb10.size
  go_wp2_with (at_builtin; refine wp_append_str rfl _ _ rfl B _ L10 rfl o10 ⟨#[44, 34, 112, 114, 101, 118, 95, 99, 104, 97, 105, 110, 95, 104, 97, 115, 104, 34, 58]⟩ rfl (by show _ + 19 ≤ _; omega) hB10 ?_)
  intro v11 w11 o11 b11
  have hl : (L10 ++ Plain.kPrev).length ≤ 87000000 := by rw [List.length_append]; show _ + 19 ≤ _; omega
  have o11 : Owns B w11 v11 (L10 ++ Plain.kPrev) := o11
  have hb11 : Below B w w11 := hb10.trans b11
  obtain ⟨L11, hL11⟩ : ∃ L, L = L10 ++ Plain.kPrev := ⟨_, rfl⟩
  rw [← hL11] at o11 hl
  have HL11 : Hid (L11 = L10 ++ Plain.kPrev) := hL11
  have hl11 : L11.length ≤ 87000000 := hl
  clear hL11 hl hl10 b11 hb10 hB10 o10
  have hB11 : B ≤ w11.heap.size := Nat.le_trans hB hb11.size
  have c12 : w11.cell? ⟨p, 3, none⟩ = some (.string s3) := (hb11.cell (by exact hp)).trans p3
  go_wp2_with (go_at_call 17; refine (appendString17 B s3 L11 _ _ o11 hB11 (by omega)).mono ?_; rintro e w12 ⟨v12, rfl, o12, b12⟩; refine Hid.out ?_)
  refine Lib.hid ?_
  have hl : (L11 ++ Plain.quoted (Plain.bs s3)).length ≤ 94000000 := by rw [List.length_append]; have := Plain.quoted_le (Plain.bs s3); rw [bs_length] at this; omega
  clear c12
  have hb12 : Below B w w12 := hb11.trans b12
  obtain ⟨L12, hL12⟩ : ∃ L, L = L11 ++ Plain.quoted (Plain.bs s3) := ⟨_, rfl⟩
  rw [← hL12] at o12 hl
  have HL12 : Hid (L12 = L11 ++ Plain.quoted (Plain.bs s3)) := hL12
  have hl12 : L12.length ≤ 94000000 := hl
  clear hL12 hl hl11 b12 hb11 hB11 o11
  have hB12 : B ≤ w12.heap.size := Nat.le_trans hB hb12.size
  go_wp2_with (at_builtin; refine wp_append_str rfl _ _ rfl B _ L12 rfl o12 ⟨#[44, 34, 115, 101, 113, 34, 58]⟩ rfl (by show _ + 7 ≤ _; omega) hB12 ?_)
  intro v13 w13 o13 b13
  have hl : (L12 ++ Plain.kSeq).length ≤ 101000000 := by rw [List.length_append]; show _ + 7 ≤ _; omega
  have o13 : Owns B w13 v13 (L12 ++ Plain.kSeq) := o13
  have hb13 : Below B w w13 := hb12.trans b13
  obtain ⟨L13, hL13⟩ : ∃ L, L = L12 ++ Plain.kSeq := ⟨_, rfl⟩
  rw [← hL13] at o13 hl
  have HL13 : Hid (L13 = L12 ++ Plain.kSeq) := hL13
  have hl13 : L13.length ≤ 101000000 := hl
  clear hL13 hl hl12 b13 hb12 hB12 o12
  have hB13 : B ≤ w13.heap.size := Nat.le_trans hB hb13.size
  have c14 : w13.cell? ⟨p, 1, none⟩ = some (.int .i64 q) := (hb13.cell (by exact hp)).trans p1
  go_wp2_with (go_at_call 26; refine (appendInt B q L13 _ _ hq0 hq1 o13 hB13 (by omega) (htab.on hb13)).mono ?_; rintro e w14 ⟨v14, rfl, o14, b14⟩; refine Hid.out ?_)
  refine Lib.hid ?_
  have hl : (L13 ++ Lib.itoa q).length ≤ 108000000 := by rw [List.length_append]; have := Lib.itoa_length_le q hq0 hq1; omega
  clear c14
  have hb14 : Below B w w14 := hb13.trans b14
  obtain ⟨L14, hL14⟩ : ∃ L, L = L13 ++ Lib.itoa q := ⟨_, rfl⟩
  rw [← hL14] at o14 hl
  have HL14 : Hid (L14 = L13 ++ Lib.itoa q) := hL14
  have hl14 : L14.length ≤ 108000000 := hl
  clear hL14 hl hl13 b14 hb13 hB13 o13
  have hB14 : B ≤ w14.heap.size := Nat.le_trans hB hb14.size
  go_wp2_with (at_builtin; refine wp_append_str rfl _ _ rfl B _ L14 rfl o14 ⟨#[44, 34, 115, 105, 103, 110, 97, 116, 117, 114, 101, 34, 58]⟩ rfl (by show _ + 13 ≤ _; omega) hB14 ?_)
  intro v15 w15 o15 b15
  have hl : (L14 ++ Plain.kSig).length ≤ 115000000 := by rw [List.length_append]; show _ + 13 ≤ _; omega
  have o15 : Owns B w15 v15 (L14 ++ Plain.kSig) := o15
  have hb15 : Below B w w15 := hb14.trans b15
  obtain ⟨L15, hL15⟩ : ∃ L, L = L14 ++ Plain.kSig := ⟨_, rfl⟩
  rw [← hL15] at o15 hl
  have HL15 : Hid (L15 = L14 ++ Plain.kSig) := hL15
  have hl15 : L15.length ≤ 115000000 := hl
  clear hL15 hl hl14 b15 hb14 hB14 o14
  have hB15 : B ≤ w15.heap.size := Nat.le_trans hB hb15.size
  have c16 : w15.cell? ⟨p, 8, none⟩ = some (.string s8) := (hb15.cell (by exact hp)).trans p8
  go_wp2_with (go_at_call 17; refine (appendString17 B s8 L15 _ _ o15 hB15 (by omega)).mono ?_; rintro e w16 ⟨v16, rfl, o16, b16⟩; refine Hid.out ?_)
  refine Lib.hid ?_
  have hl : (L15 ++ Plain.quoted (Plain.bs s8)).length ≤ 122000000 := by rw [List.length_append]; have := Plain.quoted_le (Plain.bs s8); rw [bs_length] at this; omega
  clear c16
  have hb16 : Below B w w16 := hb15.trans b16
  obtain ⟨L16, hL16⟩ : ∃ L, L = L15 ++ Plain.quoted (Plain.bs s8) := ⟨_, rfl⟩
  rw [← hL16] at o16 hl
  have HL16 : Hid (L16 = L15 ++ Plain.quoted (Plain.bs s8)) := hL16
  have hl16 : L16.length ≤ 122000000 := hl
  clear hL16 hl hl15 b16 hb15 hB15 o15
  have hB16 : B ≤ w16.heap.size := Nat.le_trans hB hb16.size
  go_wp2_with (at_builtin; refine wp_append_str rfl _ _ rfl B _ L16 rfl o16 ⟨#[44, 34, 115, 105, 103, 110, 101, 100, 95, 97, 116, 34, 58]⟩ rfl (by show _ + 13 ≤ _; omega) hB16 ?_)
  intro v17 w17 o17 b17
  have hl : (L16 ++ Plain.kSat).length ≤ 129000000 := by rw [List.length_append]; show _ + 13 ≤ _; omega
  have o17 : Owns B w17 v17 (L16 ++ Plain.kSat) := o17
  have hb17 : Below B w w17 := hb16.trans b17
  obtain ⟨L17, hL17⟩ : ∃ L, L = L16 ++ Plain.kSat := ⟨_, rfl⟩
  rw [← hL17] at o17 hl
  have HL17 : Hid (L17 = L16 ++ Plain.kSat) := hL17
  have hl17 : L17.length ≤ 129000000 := hl
  clear hL17 hl hl16 b17 hb16 hB16 o16
  have hB17 : B ≤ w17.heap.size := Nat.le_trans hB hb17.size
  have c18 : w17.cell? ⟨p, 7, none⟩ = some (.string s7) := (hb17.cell (by exact hp)).trans p7
  go_wp2_with (go_at_call 17; refine (appendString17 B s7 L17 _ _ o17 hB17 (by omega)).mono ?_; rintro e w18 ⟨v18, rfl, o18, b18⟩; refine Hid.out ?_)
  refine Lib.hid ?_
  have hl : (L17 ++ Plain.quoted (Plain.bs s7)).length ≤ 136000000 := by rw [List.length_append]; have := Plain.quoted_le (Plain.bs s7); rw [bs_length] at this; omega
  clear c18
  have hb18 : Below B w w18 := hb17.trans b18
  obtain ⟨L18, hL18⟩ : ∃ L, L = L17 ++ Plain.quoted (Plain.bs s7) := ⟨_, rfl⟩
  rw [← hL18] at o18 hl
  have HL18 : Hid (L18 = L17 ++ Plain.quoted (Plain.bs s7)) := hL18
  have hl18 : L18.length ≤ 136000000 := hl
  clear hL18 hl hl17 b18 hb17 hB17 o17
  have hB18 : B ≤ w18.heap.size := Nat.le_trans hB hb18.size
  go_wp2_with (at_builtin; refine wp_append_str rfl _ _ rfl B _ L18 rfl o18 ⟨#[44, 34, 115, 116, 114, 101, 97, 109, 34, 58]⟩ rfl (by show _ + 10 ≤ _; omega) hB18 ?_)
  intro v19 w19 o19 b19
  have hl : (L18 ++ Plain.kStream).length ≤ 143000000 := by rw [List.length_append]; show _ + 10 ≤ _; omega
  have o19 : Owns B w19 v19 (L18 ++ Plain.kStream) := o19
  have hb19 : Below B w w19 := hb18.trans b19
  obtain ⟨L19, hL19⟩ : ∃ L, L = L18 ++ Plain.kStream := ⟨_, rfl⟩
  rw [← hL19] at o19 hl
  have HL19 : Hid (L19 = L18 ++ Plain.kStream) := hL19
  have hl19 : L19.length ≤ 143000000 := hl
  clear hL19 hl hl18 b19 hb18 hB18 o18
  have hB19 : B ≤ w19.heap.size := Nat.le_trans hB hb19.size
  have c20 : w19.cell? ⟨p, 0, none⟩ = some (.string s0) := (hb19.cell (by exact hp)).trans p0
  go_wp2_with (go_at_call 17; refine (appendString17 B s0 L19 _ _ o19 hB19 (by omega)).mono ?_; rintro e w20 ⟨v20, rfl, o20, b20⟩; refine Hid.out ?_)
  refine Lib.hid ?_
  have hl : (L19 ++ Plain.quoted (Plain.bs s0)).length ≤ 150000000 := by rw [List.length_append]; have := Plain.quoted_le (Plain.bs s0); rw [bs_length] at this; omega
  clear c20
  have hb20 : Below B w w20 := hb19.trans b20
  obtain ⟨L20, hL20⟩ : ∃ L, L = L19 ++ Plain.quoted (Plain.bs s0) := ⟨_, rfl⟩
  rw [← hL20] at o20 hl
  have HL20 : Hid (L20 = L19 ++ Plain.quoted (Plain.bs s0)) := hL20
  have hl20 : L20.length ≤ 150000000 := hl
  clear hL20 hl hl19 b20 hb19 hB19 o19
  have hB20 : B ≤ w20.heap.size := Nat.le_trans hB hb20.size
  go_wp2_with (at_builtin; refine wp_append_str rfl _ _ rfl B _ L20 rfl o20 ⟨#[44, 34, 118, 34, 58]⟩ rfl (by show _ + 5 ≤ _; omega) hB20 ?_)
  intro v21 w21 o21 b21
  have hl : (L20 ++ Plain.kV).length ≤ 157000000 := by rw [List.length_append]; show _ + 5 ≤ _; omega
  have o21 : Owns B w21 v21 (L20 ++ Plain.kV) := o21
  have hb21 : Below B w w21 := hb20.trans b21
  obtain ⟨L21, hL21⟩ : ∃ L, L = L20 ++ Plain.kV := ⟨_, rfl⟩
  rw [← hL21] at o21 hl
  have HL21 : Hid (L21 = L20 ++ Plain.kV) := hL21
  have hl21 : L21.length ≤ 157000000 := hl
  clear hL21 hl hl20 b21 hb20 hB20 o20
  have hB21 : B ≤ w21.heap.size := Nat.le_trans hB hb21.size
  go_wp2_with (go_at_call 26; refine (appendInt B 1 L21 _ _ (by decide) (by decide) o21 hB21 (by omega) (htab.on hb21)).mono ?_; rintro e w22 ⟨v22, rfl, o22, b22⟩; refine Hid.out ?_)
  refine Lib.hid ?_
  have hl : (L21 ++ Lib.itoa 1).length ≤ 164000000 := by rw [List.length_append]; have := Lib.itoa_length_le 1 (by decide) (by decide); omega
  have hb22 : Below B w w22 := hb21.trans b22
  obtain ⟨L22, hL22⟩ : ∃ L, L = L21 ++ Lib.itoa 1 := ⟨_, rfl⟩
  rw [← hL22] at o22 hl
  have HL22 : Hid (L22 = L21 ++ Lib.itoa 1) := hL22
  have hl22 : L22.length ≤ 164000000 := hl
  clear hL22 hl hl21 b22 hb21 hB21 o21
  have hB22 : B ≤ w22.heap.size := Nat.le_trans hB hb22.size
  go_wp2_with (at_builtin; refine wp_append_row rfl _ _ rfl B _ L22 rfl (o22.alloc _) ⟨w22.heap.size, 0, none⟩ [125] 1 rfl (by intro j hj; match j, hj with | 0, _ => simp [Addr.add]) (by simp; omega) (by simp; omega) ?_)
  intro v23 w23 o23 b23
  have hb23 : Below B w w23 := (hb22.alloc hB22 _).trans b23
  have hfin : Owns B w23 v23 (l ++ Plain.form ⟨s0, q, s2, s3, s4, s5, s6, s7, s8⟩) := by
    have e : L22 ++ [125] = l ++ Plain.form ⟨s0, q, s2, s3, s4, s5, s6, s7, s8⟩ := by
      rw [HL22.out, HL21.out, HL20.out, HL19.out, HL18.out, HL17.out, HL16.out, HL15.out, HL14.out, HL13.out, HL12.out, HL11.out, HL10.out, HL9.out, HL8.out, HL7.out, HL6.out, HL5.out, HL4.out, HL3.out, HL2.out, HL1.out]
      simp only [Plain.form, List.append_assoc]
    rw [← e]
    exact o23
  go_wp2
  go_ret
  exact ⟨v23, rfl, hfin, hb23⟩
end Go.Proofs.Qxb6600084aDoor
