/-
  The closure 'newline' of appendIndented.
-/
import Derived.Test.Qxb6600108aHeld
namespace Go.Proofs.Qxb6600108a
open Go.RowKit

theorem blanks_snoc (l p : List UInt8) (k : Nat) : l ++ 10 :: (p ++ Plain.blanks k) ++ bs ⟨#[32, 32]⟩ = l ++ 10 :: (p ++ Plain.blanks (k + 1)) := by
  show _ ++ [32, 32] = _
  simp [Plain.blanks]

set_option maxHeartbeats 800000 in
theorem newline (H : Nat) (d : Int) (a : Option Addr) (n c : Nat) (l : List UInt8) (pre : ByteArray) (w : World) (h : Inv H w a n c l pre) (hd0 : -10000 ≤ d) (hd1 : d ≤ 10000) (hl : l.length ≤ 500000000000) (hp : pre.size ≤ 10000) :
    Calls Try.prog 31 #[.int .i64 d, .pointer (some ⟨H, 0, none⟩), .pointer (some ⟨H + 1, 0, none⟩)] w fun e w' =>
      e = .returned (.tuple #[]) ∧ (∃ a' n' c', Inv H w' a' n' c' (l ++ Plain.nl (bs pre) d) pre) ∧ Below H w w' := by
  have hsz := h.size
  have hce := h.cell
  have HI : Hid (Inv H w a n c l pre) := h
  clear h
  go_enter Try.func31, Try.ntmps31
  go_wp2_with (at_builtin; refine wp_held_row rfl (.tmp 4) (.tmp 5) rfl H a n c l rfl (HI.out.held.alloc _) ⟨w.heap.size, 0, none⟩ [10] 1 rfl (by simp) (by intro j hj; match j, hj with | 0, _ => simp [Addr.add]) (by simp; omega) (by simp; omega) ?_)
  intro a1 n1 c1 w1 h1 b1
  obtain ⟨hp1, hf1, hr1⟩ := (HI.out.alloc _).place b1
  obtain ⟨L1, hL1⟩ : ∃ L, L = l ++ [10] := ⟨_, rfl⟩
  rw [← hL1] at h1
  have I1 : Hid (Inv H (w1.setCell ⟨H, 0, none⟩ (.slice a1 n1 c1)) a1 n1 c1 L1 pre) := (HI.out.alloc _).step b1 h1
  have B1 : Hid (Below H w (w1.setCell ⟨H, 0, none⟩ (.slice a1 n1 c1))) := ((Below.refl H w).alloc (by omega) _).trans (below_step b1 _)
  have s1 := I1.out.size
  have l1 : L1.length ≤ 500000000001 := by rw [hL1, List.length_append]; show _ + 1 ≤ _; omega
  have HL1 : Hid (L1 = l ++ [10]) := hL1
  clear h1 b1 hce HI hL1
  go_wp2_with (at_builtin; refine wp_held_str rfl (.tmp 7) (.tmp 8) rfl H a1 n1 c1 L1 rfl I1.out.held pre rfl (by omega) I1.out.size ?_)
  intro a2 n2 c2 w2 h2 b2
  obtain ⟨hp2, hf2, hr2⟩ := I1.out.place b2
  have I2 : Hid (Inv H (w2.setCell ⟨H, 0, none⟩ (.slice a2 n2 c2)) a2 n2 c2 (L1 ++ bs pre) pre) := I1.out.step b2 h2
  have B2 : Hid (Below H w (w2.setCell ⟨H, 0, none⟩ (.slice a2 n2 c2))) := B1.out.trans (below_step b2 _)
  clear h2 b2 hp1 hf1 hr1 I1 B1 s1 l1
  go_wp2
  go_loopw [11] (fun t wr => ∃ k : Nat, (k : Int) ≤ 10000 ∧ (0 < k → (k : Int) ≤ d) ∧ t = .int .i64 k ∧ (∃ L, L = l ++ 10 :: (bs pre ++ Plain.blanks k) ∧ ∃ a' n' c', Inv H wr a' n' c' L pre) ∧ Below H w wr) (fun t _ => d.toNat - (intOf t).toNat)
  case atStart => exact ⟨0, by omega, by omega, rfl, ⟨L1 ++ bs pre, by rw [HL1.out]; simp [Plain.blanks], a2, n2, c2, I2.out⟩, B2.out⟩
  case round =>
    clear hp2 hf2 hr2 I2 B2 HL1
    obtain ⟨k, hk1, hk2, rfl, ⟨L, hL, a3, n3, c3, I3⟩, B3⟩ := hrel
    have J3 : Hid (Inv H wr a3 n3 c3 L pre) := I3
    have hc3 := I3.cell
    have hs3 := I3.size
    have hlen : L.length ≤ 600000000000 := by rw [hL]; simp only [List.length_append, List.length_cons, bs_length, Plain.blanks_length]; omega
    have HL : Hid (L = l ++ 10 :: (bs pre ++ Plain.blanks k)) := hL
    clear I3 hL
    by_cases hlt : (k : Int) < d
    · go_wp2_with (at_builtin; refine wp_held_str rfl (.tmp 13) _ rfl H a3 n3 c3 L rfl J3.out.held ⟨#[32, 32]⟩ rfl (by show _ + 2 ≤ _; omega) J3.out.size ?_)
      intro a4 n4 c4 w4 h4 b4
      obtain ⟨hp4, hf4, hr4⟩ := J3.out.place b4
      have I4 : Hid (Inv H (w4.setCell ⟨H, 0, none⟩ (.slice a4 n4 c4)) a4 n4 c4 (L ++ bs ⟨#[32, 32]⟩) pre) := J3.out.step b4 h4
      have B4 : Hid (Below H w (w4.setCell ⟨H, 0, none⟩ (.slice a4 n4 c4))) := B3.trans (below_step b4 _)
      clear h4 b4 hc3 J3
      go_wp2
      go_roundw
      case rel => exact ⟨k + 1, by omega, by omega, by go_num, ⟨_, by rw [HL.out, blanks_snoc], a4, n4, c4, I4.out⟩, B4.out⟩
      case measure => simp [intOf]; omega
    · have hdk : d.toNat = k := by omega
      have HD : Hid (d.toNat = k) := hdk
      clear hdk
      go_wp2
      go_end0
      refine ⟨rfl, ⟨a3, n3, c3, ?_⟩, B3⟩
      have e : l ++ Plain.nl (bs pre) d = L := by
        rw [HL.out]
        unfold Plain.nl
        rw [HD.out]
      rw [e]
      exact J3.out
end Go.Proofs.Qxb6600108a
