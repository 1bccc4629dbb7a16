/-
  appendIndented: behind dst's bytes it writes what it writes onto nil.
-/
import Derived.Test.Qxb6600108aWalksC
import Derived.Deep.RegionLaw
namespace Go.Proofs.Qxb6600108a
open Go.RowKit

set_option maxRecDepth 100000 in
set_option maxHeartbeats 6400000 in
theorem indented_row (cg cc : Nat) (cl : List UInt8) (a : Option Addr) (n c : Nat) (l : List UInt8) (pre : ByteArray) (w : World) (hcg : cg < w.heap.size) (hcc : cl.length ≤ cc) (hcl : cl.length ≤ 4096) (hpre : pre.size ≤ 4096) (hl : l.length ≤ 1000000)
    (hcell : ∀ j (hj : j < cl.length), w.cell? ⟨cg, j, none⟩ = some (.int .u8 (cl[j].toNat : Int))) (hgood : Plain.good cl cl.length 0) (hdst : Held w.heap.size w a n c l) :
    Calls Try.prog 28 #[.slice a n c, .slice (some ⟨cg, 0, none⟩) cl.length cc, .string pre] w fun e w' =>
      ∃ a' n' c', e = .returned (.slice a' n' c') ∧ View w' a' n' c' (l ++ Plain.rest cl (bs pre) cl.length 0 0 false) ∧ (Plain.rest cl (bs pre) cl.length 0 0 false).length ≤ 200000000 ∧ Below w.heap.size w w' := by
  have hmf : ∀ (fn : Fn) (first cap : Array Value) (w : World), (Instr.makeFunc fn first cap).run Try.prog w = .ok (.func fn first cap) w := fun _ _ _ _ => rfl
  obtain ⟨T, hT⟩ : ∃ T, T = Plain.rest cl (bs pre) cl.length 0 0 false := ⟨_, rfl⟩
  rw [← hT]
  have I0 : Hid (Inv w.heap.size ((w.alloc (.cells #[.slice a n c] 22)).alloc (.cells #[.string pre] 9)) a n c l pre) := by
    refine ⟨by simp, ?_, ?_, (hdst.alloc _).alloc _⟩
    · rw [Below.heap_alloc _ _ _ (by simp)]
      exact heap_alloc_new w _
    · have := heap_alloc_new (w.alloc (.cells #[.slice a n c] 22)) (.cells #[.string pre] 9)
      rw [World.size_alloc] at this
      exact this
  have B0 : Hid (Below w.heap.size w ((w.alloc (.cells #[.slice a n c] 22)).alloc (.cells #[.string pre] 9))) := ((Below.refl _ _).alloc (Nat.le_refl _) _).alloc (by simp) _
  have HC : Hid (∀ j (hj : j < cl.length), w.cell? ⟨cg, j, none⟩ = some (.int .u8 (cl[j].toNat : Int))) := hcell
  have HT : Hid (T = Plain.rest cl (bs pre) cl.length 0 0 false) := hT
  clear hdst hcell hT
  go_enter Try.func28, Try.ntmps28
  go_wp2
  go_loopw [8, 9, 10] (fun dt ot kt wr => ∃ (k f : Nat) (d : Int) (o : Bool) (out : List UInt8), k ≤ cl.length ∧ cl.length ≤ f + k ∧ kt = .int .i64 k ∧ dt = .int .i64 d ∧ ot = .bool o ∧ -(k : Int) ≤ d ∧ d ≤ (k : Int) ∧ Plain.good cl f k ∧ out.length ≤ 30000 * k ∧ out ++ Plain.rest cl (bs pre) f k d o = T ∧ (∃ L, L = l ++ out ∧ ∃ a' n' c', Inv w.heap.size wr a' n' c' L pre) ∧ Below w.heap.size w wr) (fun _ _ kt _ => cl.length - (intOf kt).toNat)
  case atStart => exact ⟨0, cl.length, 0, false, [], Nat.zero_le _, by omega, rfl, rfl, rfl, by omega, by omega, hgood, by simp, by rw [HT.out]; rfl, ⟨l, by simp, a, n, c, I0.out⟩, B0.out⟩
  case round =>
    clear I0 B0 HT hgood
    obtain ⟨k, f, d, o, out, hk, hf, rfl, rfl, rfl, hd0, hd1, hg, hout, hrest, ⟨L, hL, a3, n3, c3, I3⟩, B3⟩ := hrel
    have hllen : L.length ≤ 1000000 + 30000 * k := by rw [hL, List.length_append]; omega
    have J3 : Hid (Inv w.heap.size wr a3 n3 c3 L pre) := I3
    have BB3 : Hid (Below w.heap.size w wr) := B3
    have HR : Hid (out ++ Plain.rest cl (bs pre) f k d o = T) := hrest
    have HG : Hid (Plain.good cl f k) := hg
    have HL : Hid (L = l ++ out) := hL
    have hc3 := I3.cell
    have hs3 := I3.size
    clear hrest hg hL I3 B3
    by_cases hlt : k < cl.length
    · obtain ⟨f, rfl⟩ : ∃ x, f = x + 1 := ⟨f - 1, by omega⟩
      have hck : wr.cell? ⟨cg, k, none⟩ = some (.int .u8 (cl[k].toNat : Int)) := (BB3.out.cell (by exact hcg)).trans (HC.out k hlt)
      have hkc : (k : Int) < (cl.length : Int) := by omega
      by_cases hb : (cl[k].toNat : Int) = 125
      · have hbb : cl[k] = 125 := u8_eq hb 125 rfl
        have HB : Hid (cl[k] = 125) := hbb
        have n34 : cl[k] ≠ 34 := by rw [hbb]; decide
        have N34 : Hid (cl[k] ≠ 34) := n34
        have e125 : ((cl[k].toNat : Int) == 125) = true := beq_iff_eq.2 hb
        have e93 : ((cl[k].toNat : Int) == 93) = false := beq_eq_false_iff_ne.2 (by omega)
        have e34 : ((cl[k].toNat : Int) == 34) = false := beq_eq_false_iff_ne.2 (by omega)
        have e123 : ((cl[k].toNat : Int) == 123) = false := beq_eq_false_iff_ne.2 (by omega)
        have e91 : ((cl[k].toNat : Int) == 91) = false := beq_eq_false_iff_ne.2 (by omega)
        have e44 : ((cl[k].toNat : Int) == 44) = false := beq_eq_false_iff_ne.2 (by omega)
        have e58 : ((cl[k].toNat : Int) == 58) = false := beq_eq_false_iff_ne.2 (by omega)
        clear hb hbb n34
        cases o
        · skip
          go_wp2_with fail
          refine (newline w.heap.size (d - 1) _ _ _ L pre _ J3.out (by omega) (by omega) (by omega) (by omega)).mono ?_
          rintro e w4 ⟨rfl, ⟨a4, n4, c4, I4⟩, b4⟩
          obtain ⟨L4, hL4⟩ : ∃ X, X = L ++ Plain.nl (bs pre) (d - 1) := ⟨_, rfl⟩
          rw [← hL4] at I4
          have hlen4 : L4.length ≤ L.length + 12400 := by rw [hL4, List.length_append, Plain.nl_length, bs_length]; omega
          have HL4 : Hid (L4 = L ++ Plain.nl (bs pre) (d - 1)) := hL4
          have J4 : Hid (Inv w.heap.size w4 a4 n4 c4 L4 pre) := I4
          have BB4 : Hid (Below w.heap.size w w4) := BB3.out.trans b4
          have hc4 := I4.cell
          have hs4 := I4.size
          clear I4 b4 hL4 J3 BB3 hs3 hc3
          go_wp2_with (at_builtin; refine wp_held_row rfl _ _ rfl w.heap.size a4 n4 c4 L4 rfl (J4.out.held.alloc _) ⟨w4.heap.size, 0, none⟩ [cl[k]] 1 rfl (by simp) (by intro j hj; match j, hj with | 0, _ => simp [Addr.add]) (by simp; omega) (by simp; omega) ?_)
          intro a5 n5 c5 w5 h5 b5
          obtain ⟨hp5, hf5, hr5⟩ := (J4.out.alloc _).place b5
          obtain ⟨L5, hL5⟩ : ∃ X, X = L4 ++ [cl[k]] := ⟨_, rfl⟩
          rw [← hL5] at h5
          have hlen5 : L5.length ≤ L4.length + 1 := by rw [hL5, List.length_append]; exact Nat.le_refl _
          have HL5 : Hid (L5 = L4 ++ [cl[k]]) := hL5
          have J5 : Hid (Inv w.heap.size (w5.setCell ⟨w.heap.size, 0, none⟩ (.slice a5 n5 c5)) a5 n5 c5 L5 pre) := (J4.out.alloc _).step b5 h5
          have BB5 : Hid (Below w.heap.size w (w5.setCell ⟨w.heap.size, 0, none⟩ (.slice a5 n5 c5))) := (BB4.out.alloc (by omega) _).trans (below_step b5 _)
          have hs5 := J5.out.size
          clear h5 b5 hL5 J4 BB4 hc4 hs4
          go_wp2
          go_roundw
          case rel => exact ⟨k + 1, f, d - 1, false, out ++ (Plain.nl (bs pre) (d - 1) ++ [cl[k]]), by omega, by omega, by go_num, rfl, rfl, by omega, by omega, (Plain.good_next hlt N34.out).1 HG.out, by simp only [List.length_append, List.length_cons, List.length_nil, Plain.nl_length, bs_length]; omega, by rw [← HR.out, Plain.rest_close hlt (.inl HB.out)]; simp, ⟨_, by rw [HL5.out, HL4.out, HL.out]; simp, _, _, _, J5.out⟩, BB5.out⟩
          case measure => simp [intOf]; omega
        · skip
          go_wp2_with (at_builtin; refine wp_held_row rfl _ _ rfl w.heap.size a3 n3 c3 L rfl (J3.out.held.alloc _) ⟨wr.heap.size, 0, none⟩ [cl[k]] 1 rfl (by simp) (by intro j hj; match j, hj with | 0, _ => simp [Addr.add]) (by simp; omega) (by simp; omega) ?_)
          intro a4 n4 c4 w4 h4 b4
          obtain ⟨hp4, hf4, hr4⟩ := (J3.out.alloc _).place b4
          obtain ⟨L4, hL4⟩ : ∃ X, X = L ++ [cl[k]] := ⟨_, rfl⟩
          rw [← hL4] at h4
          have hlen4 : L4.length ≤ L.length + 1 := by rw [hL4, List.length_append]; exact Nat.le_refl _
          have HL4 : Hid (L4 = L ++ [cl[k]]) := hL4
          have J4 : Hid (Inv w.heap.size (w4.setCell ⟨w.heap.size, 0, none⟩ (.slice a4 n4 c4)) a4 n4 c4 L4 pre) := (J3.out.alloc _).step b4 h4
          have BB4 : Hid (Below w.heap.size w (w4.setCell ⟨w.heap.size, 0, none⟩ (.slice a4 n4 c4))) := (BB3.out.alloc (by omega) _).trans (below_step b4 _)
          have hs4 := J4.out.size
          clear h4 b4 hL4 J3 BB3 hc3 hs3
          go_wp2
          go_roundw
          case rel => exact ⟨k + 1, f, d - 1, false, out ++ [cl[k]], by omega, by omega, by go_num, rfl, rfl, by omega, by omega, (Plain.good_next hlt N34.out).1 HG.out, by simp only [List.length_append, List.length_cons, List.length_nil]; omega, by rw [← HR.out, Plain.rest_close hlt (.inl HB.out)]; simp, ⟨_, by rw [HL4.out, HL.out]; simp, _, _, _, J4.out⟩, BB4.out⟩
          case measure => simp [intOf]; omega
      by_cases hb : (cl[k].toNat : Int) = 93
      · have hbb : cl[k] = 93 := u8_eq hb 93 rfl
        have HB : Hid (cl[k] = 93) := hbb
        have n34 : cl[k] ≠ 34 := by rw [hbb]; decide
        have N34 : Hid (cl[k] ≠ 34) := n34
        have e125 : ((cl[k].toNat : Int) == 125) = false := beq_eq_false_iff_ne.2 (by omega)
        have e93 : ((cl[k].toNat : Int) == 93) = true := beq_iff_eq.2 hb
        have e34 : ((cl[k].toNat : Int) == 34) = false := beq_eq_false_iff_ne.2 (by omega)
        have e123 : ((cl[k].toNat : Int) == 123) = false := beq_eq_false_iff_ne.2 (by omega)
        have e91 : ((cl[k].toNat : Int) == 91) = false := beq_eq_false_iff_ne.2 (by omega)
        have e44 : ((cl[k].toNat : Int) == 44) = false := beq_eq_false_iff_ne.2 (by omega)
        have e58 : ((cl[k].toNat : Int) == 58) = false := beq_eq_false_iff_ne.2 (by omega)
        clear hb hbb n34
        cases o
        · skip
          go_wp2_with fail
          refine (newline w.heap.size (d - 1) _ _ _ L pre _ J3.out (by omega) (by omega) (by omega) (by omega)).mono ?_
          rintro e w4 ⟨rfl, ⟨a4, n4, c4, I4⟩, b4⟩
          obtain ⟨L4, hL4⟩ : ∃ X, X = L ++ Plain.nl (bs pre) (d - 1) := ⟨_, rfl⟩
          rw [← hL4] at I4
          have hlen4 : L4.length ≤ L.length + 12400 := by rw [hL4, List.length_append, Plain.nl_length, bs_length]; omega
          have HL4 : Hid (L4 = L ++ Plain.nl (bs pre) (d - 1)) := hL4
          have J4 : Hid (Inv w.heap.size w4 a4 n4 c4 L4 pre) := I4
          have BB4 : Hid (Below w.heap.size w w4) := BB3.out.trans b4
          have hc4 := I4.cell
          have hs4 := I4.size
          clear I4 b4 hL4 J3 BB3 hs3 hc3
          go_wp2_with (at_builtin; refine wp_held_row rfl _ _ rfl w.heap.size a4 n4 c4 L4 rfl (J4.out.held.alloc _) ⟨w4.heap.size, 0, none⟩ [cl[k]] 1 rfl (by simp) (by intro j hj; match j, hj with | 0, _ => simp [Addr.add]) (by simp; omega) (by simp; omega) ?_)
          intro a5 n5 c5 w5 h5 b5
          obtain ⟨hp5, hf5, hr5⟩ := (J4.out.alloc _).place b5
          obtain ⟨L5, hL5⟩ : ∃ X, X = L4 ++ [cl[k]] := ⟨_, rfl⟩
          rw [← hL5] at h5
          have hlen5 : L5.length ≤ L4.length + 1 := by rw [hL5, List.length_append]; exact Nat.le_refl _
          have HL5 : Hid (L5 = L4 ++ [cl[k]]) := hL5
          have J5 : Hid (Inv w.heap.size (w5.setCell ⟨w.heap.size, 0, none⟩ (.slice a5 n5 c5)) a5 n5 c5 L5 pre) := (J4.out.alloc _).step b5 h5
          have BB5 : Hid (Below w.heap.size w (w5.setCell ⟨w.heap.size, 0, none⟩ (.slice a5 n5 c5))) := (BB4.out.alloc (by omega) _).trans (below_step b5 _)
          have hs5 := J5.out.size
          clear h5 b5 hL5 J4 BB4 hc4 hs4
          go_wp2
          go_roundw
          case rel => exact ⟨k + 1, f, d - 1, false, out ++ (Plain.nl (bs pre) (d - 1) ++ [cl[k]]), by omega, by omega, by go_num, rfl, rfl, by omega, by omega, (Plain.good_next hlt N34.out).1 HG.out, by simp only [List.length_append, List.length_cons, List.length_nil, Plain.nl_length, bs_length]; omega, by rw [← HR.out, Plain.rest_close hlt (.inr HB.out)]; simp, ⟨_, by rw [HL5.out, HL4.out, HL.out]; simp, _, _, _, J5.out⟩, BB5.out⟩
          case measure => simp [intOf]; omega
        · skip
          go_wp2_with (at_builtin; refine wp_held_row rfl _ _ rfl w.heap.size a3 n3 c3 L rfl (J3.out.held.alloc _) ⟨wr.heap.size, 0, none⟩ [cl[k]] 1 rfl (by simp) (by intro j hj; match j, hj with | 0, _ => simp [Addr.add]) (by simp; omega) (by simp; omega) ?_)
          intro a4 n4 c4 w4 h4 b4
          obtain ⟨hp4, hf4, hr4⟩ := (J3.out.alloc _).place b4
          obtain ⟨L4, hL4⟩ : ∃ X, X = L ++ [cl[k]] := ⟨_, rfl⟩
          rw [← hL4] at h4
          have hlen4 : L4.length ≤ L.length + 1 := by rw [hL4, List.length_append]; exact Nat.le_refl _
          have HL4 : Hid (L4 = L ++ [cl[k]]) := hL4
          have J4 : Hid (Inv w.heap.size (w4.setCell ⟨w.heap.size, 0, none⟩ (.slice a4 n4 c4)) a4 n4 c4 L4 pre) := (J3.out.alloc _).step b4 h4
          have BB4 : Hid (Below w.heap.size w (w4.setCell ⟨w.heap.size, 0, none⟩ (.slice a4 n4 c4))) := (BB3.out.alloc (by omega) _).trans (below_step b4 _)
          have hs4 := J4.out.size
          clear h4 b4 hL4 J3 BB3 hc3 hs3
          go_wp2
          go_roundw
          case rel => exact ⟨k + 1, f, d - 1, false, out ++ [cl[k]], by omega, by omega, by go_num, rfl, rfl, by omega, by omega, (Plain.good_next hlt N34.out).1 HG.out, by simp only [List.length_append, List.length_cons, List.length_nil]; omega, by rw [← HR.out, Plain.rest_close hlt (.inr HB.out)]; simp, ⟨_, by rw [HL4.out, HL.out]; simp, _, _, _, J4.out⟩, BB4.out⟩
          case measure => simp [intOf]; omega
      by_cases hb : (cl[k].toNat : Int) = 123
      · have hbb : cl[k] = 123 := u8_eq hb 123 rfl
        have HB : Hid (cl[k] = 123) := hbb
        have n34 : cl[k] ≠ 34 := by rw [hbb]; decide
        have N34 : Hid (cl[k] ≠ 34) := n34
        have e125 : ((cl[k].toNat : Int) == 125) = false := beq_eq_false_iff_ne.2 (by omega)
        have e93 : ((cl[k].toNat : Int) == 93) = false := beq_eq_false_iff_ne.2 (by omega)
        have e34 : ((cl[k].toNat : Int) == 34) = false := beq_eq_false_iff_ne.2 (by omega)
        have e123 : ((cl[k].toNat : Int) == 123) = true := beq_iff_eq.2 hb
        have e91 : ((cl[k].toNat : Int) == 91) = false := beq_eq_false_iff_ne.2 (by omega)
        have e44 : ((cl[k].toNat : Int) == 44) = false := beq_eq_false_iff_ne.2 (by omega)
        have e58 : ((cl[k].toNat : Int) == 58) = false := beq_eq_false_iff_ne.2 (by omega)
        clear hb hbb n34
        cases o
        · skip
          go_wp2_with (at_builtin; refine wp_held_row rfl _ _ rfl w.heap.size a3 n3 c3 L rfl (J3.out.held.alloc _) ⟨wr.heap.size, 0, none⟩ [cl[k]] 1 rfl (by simp) (by intro j hj; match j, hj with | 0, _ => simp [Addr.add]) (by simp; omega) (by simp; omega) ?_)
          intro a4 n4 c4 w4 h4 b4
          obtain ⟨hp4, hf4, hr4⟩ := (J3.out.alloc _).place b4
          obtain ⟨L4, hL4⟩ : ∃ X, X = L ++ [cl[k]] := ⟨_, rfl⟩
          rw [← hL4] at h4
          have hlen4 : L4.length ≤ L.length + 1 := by rw [hL4, List.length_append]; exact Nat.le_refl _
          have HL4 : Hid (L4 = L ++ [cl[k]]) := hL4
          have J4 : Hid (Inv w.heap.size (w4.setCell ⟨w.heap.size, 0, none⟩ (.slice a4 n4 c4)) a4 n4 c4 L4 pre) := (J3.out.alloc _).step b4 h4
          have BB4 : Hid (Below w.heap.size w (w4.setCell ⟨w.heap.size, 0, none⟩ (.slice a4 n4 c4))) := (BB3.out.alloc (by omega) _).trans (below_step b4 _)
          have hs4 := J4.out.size
          clear h4 b4 hL4 J3 BB3 hc3 hs3
          go_wp2
          go_roundw
          case rel => exact ⟨k + 1, f, d + 1, true, out ++ [cl[k]], by omega, by omega, by go_num, rfl, rfl, by omega, by omega, (Plain.good_next hlt N34.out).1 HG.out, by simp only [List.length_append, List.length_cons, List.length_nil]; omega, by rw [← HR.out, Plain.rest_open hlt (.inl HB.out)]; simp, ⟨_, by rw [HL4.out, HL.out]; simp, _, _, _, J4.out⟩, BB4.out⟩
          case measure => simp [intOf]; omega
        · skip
          go_wp2_with fail
          refine (newline w.heap.size (d) _ _ _ L pre _ J3.out (by omega) (by omega) (by omega) (by omega)).mono ?_
          rintro e w4 ⟨rfl, ⟨a4, n4, c4, I4⟩, b4⟩
          obtain ⟨L4, hL4⟩ : ∃ X, X = L ++ Plain.nl (bs pre) (d) := ⟨_, rfl⟩
          rw [← hL4] at I4
          have hlen4 : L4.length ≤ L.length + 12400 := by rw [hL4, List.length_append, Plain.nl_length, bs_length]; omega
          have HL4 : Hid (L4 = L ++ Plain.nl (bs pre) (d)) := hL4
          have J4 : Hid (Inv w.heap.size w4 a4 n4 c4 L4 pre) := I4
          have BB4 : Hid (Below w.heap.size w w4) := BB3.out.trans b4
          have hc4 := I4.cell
          have hs4 := I4.size
          clear I4 b4 hL4 J3 BB3 hs3 hc3
          go_wp2_with (at_builtin; refine wp_held_row rfl _ _ rfl w.heap.size a4 n4 c4 L4 rfl (J4.out.held.alloc _) ⟨w4.heap.size, 0, none⟩ [cl[k]] 1 rfl (by simp) (by intro j hj; match j, hj with | 0, _ => simp [Addr.add]) (by simp; omega) (by simp; omega) ?_)
          intro a5 n5 c5 w5 h5 b5
          obtain ⟨hp5, hf5, hr5⟩ := (J4.out.alloc _).place b5
          obtain ⟨L5, hL5⟩ : ∃ X, X = L4 ++ [cl[k]] := ⟨_, rfl⟩
          rw [← hL5] at h5
          have hlen5 : L5.length ≤ L4.length + 1 := by rw [hL5, List.length_append]; exact Nat.le_refl _
          have HL5 : Hid (L5 = L4 ++ [cl[k]]) := hL5
          have J5 : Hid (Inv w.heap.size (w5.setCell ⟨w.heap.size, 0, none⟩ (.slice a5 n5 c5)) a5 n5 c5 L5 pre) := (J4.out.alloc _).step b5 h5
          have BB5 : Hid (Below w.heap.size w (w5.setCell ⟨w.heap.size, 0, none⟩ (.slice a5 n5 c5))) := (BB4.out.alloc (by omega) _).trans (below_step b5 _)
          have hs5 := J5.out.size
          clear h5 b5 hL5 J4 BB4 hc4 hs4
          go_wp2
          go_roundw
          case rel => exact ⟨k + 1, f, d + 1, true, out ++ (Plain.nl (bs pre) d ++ [cl[k]]), by omega, by omega, by go_num, rfl, rfl, by omega, by omega, (Plain.good_next hlt N34.out).1 HG.out, by simp only [List.length_append, List.length_cons, List.length_nil, Plain.nl_length, bs_length]; omega, by rw [← HR.out, Plain.rest_open hlt (.inl HB.out)]; simp, ⟨_, by rw [HL5.out, HL4.out, HL.out]; simp, _, _, _, J5.out⟩, BB5.out⟩
          case measure => simp [intOf]; omega
      by_cases hb : (cl[k].toNat : Int) = 91
      · have hbb : cl[k] = 91 := u8_eq hb 91 rfl
        have HB : Hid (cl[k] = 91) := hbb
        have n34 : cl[k] ≠ 34 := by rw [hbb]; decide
        have N34 : Hid (cl[k] ≠ 34) := n34
        have e125 : ((cl[k].toNat : Int) == 125) = false := beq_eq_false_iff_ne.2 (by omega)
        have e93 : ((cl[k].toNat : Int) == 93) = false := beq_eq_false_iff_ne.2 (by omega)
        have e34 : ((cl[k].toNat : Int) == 34) = false := beq_eq_false_iff_ne.2 (by omega)
        have e123 : ((cl[k].toNat : Int) == 123) = false := beq_eq_false_iff_ne.2 (by omega)
        have e91 : ((cl[k].toNat : Int) == 91) = true := beq_iff_eq.2 hb
        have e44 : ((cl[k].toNat : Int) == 44) = false := beq_eq_false_iff_ne.2 (by omega)
        have e58 : ((cl[k].toNat : Int) == 58) = false := beq_eq_false_iff_ne.2 (by omega)
        clear hb hbb n34
        cases o
        · skip
          go_wp2_with (at_builtin; refine wp_held_row rfl _ _ rfl w.heap.size a3 n3 c3 L rfl (J3.out.held.alloc _) ⟨wr.heap.size, 0, none⟩ [cl[k]] 1 rfl (by simp) (by intro j hj; match j, hj with | 0, _ => simp [Addr.add]) (by simp; omega) (by simp; omega) ?_)
          intro a4 n4 c4 w4 h4 b4
          obtain ⟨hp4, hf4, hr4⟩ := (J3.out.alloc _).place b4
          obtain ⟨L4, hL4⟩ : ∃ X, X = L ++ [cl[k]] := ⟨_, rfl⟩
          rw [← hL4] at h4
          have hlen4 : L4.length ≤ L.length + 1 := by rw [hL4, List.length_append]; exact Nat.le_refl _
          have HL4 : Hid (L4 = L ++ [cl[k]]) := hL4
          have J4 : Hid (Inv w.heap.size (w4.setCell ⟨w.heap.size, 0, none⟩ (.slice a4 n4 c4)) a4 n4 c4 L4 pre) := (J3.out.alloc _).step b4 h4
          have BB4 : Hid (Below w.heap.size w (w4.setCell ⟨w.heap.size, 0, none⟩ (.slice a4 n4 c4))) := (BB3.out.alloc (by omega) _).trans (below_step b4 _)
          have hs4 := J4.out.size
          clear h4 b4 hL4 J3 BB3 hc3 hs3
          go_wp2
          go_roundw
          case rel => exact ⟨k + 1, f, d + 1, true, out ++ [cl[k]], by omega, by omega, by go_num, rfl, rfl, by omega, by omega, (Plain.good_next hlt N34.out).1 HG.out, by simp only [List.length_append, List.length_cons, List.length_nil]; omega, by rw [← HR.out, Plain.rest_open hlt (.inr HB.out)]; simp, ⟨_, by rw [HL4.out, HL.out]; simp, _, _, _, J4.out⟩, BB4.out⟩
          case measure => simp [intOf]; omega
        · skip
          go_wp2_with fail
          refine (newline w.heap.size (d) _ _ _ L pre _ J3.out (by omega) (by omega) (by omega) (by omega)).mono ?_
          rintro e w4 ⟨rfl, ⟨a4, n4, c4, I4⟩, b4⟩
          obtain ⟨L4, hL4⟩ : ∃ X, X = L ++ Plain.nl (bs pre) (d) := ⟨_, rfl⟩
          rw [← hL4] at I4
          have hlen4 : L4.length ≤ L.length + 12400 := by rw [hL4, List.length_append, Plain.nl_length, bs_length]; omega
          have HL4 : Hid (L4 = L ++ Plain.nl (bs pre) (d)) := hL4
          have J4 : Hid (Inv w.heap.size w4 a4 n4 c4 L4 pre) := I4
          have BB4 : Hid (Below w.heap.size w w4) := BB3.out.trans b4
          have hc4 := I4.cell
          have hs4 := I4.size
          clear I4 b4 hL4 J3 BB3 hs3 hc3
          go_wp2_with (at_builtin; refine wp_held_row rfl _ _ rfl w.heap.size a4 n4 c4 L4 rfl (J4.out.held.alloc _) ⟨w4.heap.size, 0, none⟩ [cl[k]] 1 rfl (by simp) (by intro j hj; match j, hj with | 0, _ => simp [Addr.add]) (by simp; omega) (by simp; omega) ?_)
          intro a5 n5 c5 w5 h5 b5
          obtain ⟨hp5, hf5, hr5⟩ := (J4.out.alloc _).place b5
          obtain ⟨L5, hL5⟩ : ∃ X, X = L4 ++ [cl[k]] := ⟨_, rfl⟩
          rw [← hL5] at h5
          have hlen5 : L5.length ≤ L4.length + 1 := by rw [hL5, List.length_append]; exact Nat.le_refl _
          have HL5 : Hid (L5 = L4 ++ [cl[k]]) := hL5
          have J5 : Hid (Inv w.heap.size (w5.setCell ⟨w.heap.size, 0, none⟩ (.slice a5 n5 c5)) a5 n5 c5 L5 pre) := (J4.out.alloc _).step b5 h5
          have BB5 : Hid (Below w.heap.size w (w5.setCell ⟨w.heap.size, 0, none⟩ (.slice a5 n5 c5))) := (BB4.out.alloc (by omega) _).trans (below_step b5 _)
          have hs5 := J5.out.size
          clear h5 b5 hL5 J4 BB4 hc4 hs4
          go_wp2
          go_roundw
          case rel => exact ⟨k + 1, f, d + 1, true, out ++ (Plain.nl (bs pre) d ++ [cl[k]]), by omega, by omega, by go_num, rfl, rfl, by omega, by omega, (Plain.good_next hlt N34.out).1 HG.out, by simp only [List.length_append, List.length_cons, List.length_nil, Plain.nl_length, bs_length]; omega, by rw [← HR.out, Plain.rest_open hlt (.inr HB.out)]; simp, ⟨_, by rw [HL5.out, HL4.out, HL.out]; simp, _, _, _, J5.out⟩, BB5.out⟩
          case measure => simp [intOf]; omega
      by_cases hb : (cl[k].toNat : Int) = 44
      · have hbb : cl[k] = 44 := u8_eq hb 44 rfl
        have HB : Hid (cl[k] = 44) := hbb
        have n34 : cl[k] ≠ 34 := by rw [hbb]; decide
        have N34 : Hid (cl[k] ≠ 34) := n34
        have e125 : ((cl[k].toNat : Int) == 125) = false := beq_eq_false_iff_ne.2 (by omega)
        have e93 : ((cl[k].toNat : Int) == 93) = false := beq_eq_false_iff_ne.2 (by omega)
        have e34 : ((cl[k].toNat : Int) == 34) = false := beq_eq_false_iff_ne.2 (by omega)
        have e123 : ((cl[k].toNat : Int) == 123) = false := beq_eq_false_iff_ne.2 (by omega)
        have e91 : ((cl[k].toNat : Int) == 91) = false := beq_eq_false_iff_ne.2 (by omega)
        have e44 : ((cl[k].toNat : Int) == 44) = true := beq_iff_eq.2 hb
        have e58 : ((cl[k].toNat : Int) == 58) = false := beq_eq_false_iff_ne.2 (by omega)
        clear hb hbb n34
        cases o
        · skip
          go_wp2_with (at_builtin; refine wp_held_row rfl _ _ rfl w.heap.size a3 n3 c3 L rfl (J3.out.held.alloc _) ⟨wr.heap.size, 0, none⟩ [cl[k]] 1 rfl (by simp) (by intro j hj; match j, hj with | 0, _ => simp [Addr.add]) (by simp; omega) (by simp; omega) ?_)
          intro a4 n4 c4 w4 h4 b4
          obtain ⟨hp4, hf4, hr4⟩ := (J3.out.alloc _).place b4
          obtain ⟨L4, hL4⟩ : ∃ X, X = L ++ [cl[k]] := ⟨_, rfl⟩
          rw [← hL4] at h4
          have hlen4 : L4.length ≤ L.length + 1 := by rw [hL4, List.length_append]; exact Nat.le_refl _
          have HL4 : Hid (L4 = L ++ [cl[k]]) := hL4
          have J4 : Hid (Inv w.heap.size (w4.setCell ⟨w.heap.size, 0, none⟩ (.slice a4 n4 c4)) a4 n4 c4 L4 pre) := (J3.out.alloc _).step b4 h4
          have BB4 : Hid (Below w.heap.size w (w4.setCell ⟨w.heap.size, 0, none⟩ (.slice a4 n4 c4))) := (BB3.out.alloc (by omega) _).trans (below_step b4 _)
          have hs4 := J4.out.size
          clear h4 b4 hL4 J3 BB3 hc3 hs3
          go_wp2_with fail
          refine (newline w.heap.size (d) _ _ _ L4 pre _ J4.out (by omega) (by omega) (by omega) (by omega)).mono ?_
          rintro e w5 ⟨rfl, ⟨a5, n5, c5, I5⟩, b5⟩
          obtain ⟨L5, hL5⟩ : ∃ X, X = L4 ++ Plain.nl (bs pre) (d) := ⟨_, rfl⟩
          rw [← hL5] at I5
          have hlen5 : L5.length ≤ L4.length + 12400 := by rw [hL5, List.length_append, Plain.nl_length, bs_length]; omega
          have HL5 : Hid (L5 = L4 ++ Plain.nl (bs pre) (d)) := hL5
          have J5 : Hid (Inv w.heap.size w5 a5 n5 c5 L5 pre) := I5
          have BB5 : Hid (Below w.heap.size w w5) := BB4.out.trans b5
          have hc5 := I5.cell
          have hs5 := I5.size
          clear I5 b5 hL5 J4 BB4 hs4 hp4 hf4 hr4
          go_wp2
          go_roundw
          case rel => exact ⟨k + 1, f, d, false, out ++ (cl[k] :: Plain.nl (bs pre) d), by omega, by omega, by go_num, rfl, rfl, by omega, by omega, (Plain.good_next hlt N34.out).1 HG.out, by simp only [List.length_append, List.length_cons, Plain.nl_length, bs_length]; omega, by rw [← HR.out, Plain.rest_comma hlt HB.out]; simp, ⟨_, by rw [HL5.out, HL4.out, HL.out]; simp, _, _, _, J5.out⟩, BB5.out⟩
          case measure => simp [intOf]; omega
        · skip
          go_wp2_with fail
          refine (newline w.heap.size (d) _ _ _ L pre _ J3.out (by omega) (by omega) (by omega) (by omega)).mono ?_
          rintro e w4 ⟨rfl, ⟨a4, n4, c4, I4⟩, b4⟩
          obtain ⟨L4, hL4⟩ : ∃ X, X = L ++ Plain.nl (bs pre) (d) := ⟨_, rfl⟩
          rw [← hL4] at I4
          have hlen4 : L4.length ≤ L.length + 12400 := by rw [hL4, List.length_append, Plain.nl_length, bs_length]; omega
          have HL4 : Hid (L4 = L ++ Plain.nl (bs pre) (d)) := hL4
          have J4 : Hid (Inv w.heap.size w4 a4 n4 c4 L4 pre) := I4
          have BB4 : Hid (Below w.heap.size w w4) := BB3.out.trans b4
          have hc4 := I4.cell
          have hs4 := I4.size
          clear I4 b4 hL4 J3 BB3 hs3 hc3
          go_wp2_with (at_builtin; refine wp_held_row rfl _ _ rfl w.heap.size a4 n4 c4 L4 rfl (J4.out.held.alloc _) ⟨w4.heap.size, 0, none⟩ [cl[k]] 1 rfl (by simp) (by intro j hj; match j, hj with | 0, _ => simp [Addr.add]) (by simp; omega) (by simp; omega) ?_)
          intro a5 n5 c5 w5 h5 b5
          obtain ⟨hp5, hf5, hr5⟩ := (J4.out.alloc _).place b5
          obtain ⟨L5, hL5⟩ : ∃ X, X = L4 ++ [cl[k]] := ⟨_, rfl⟩
          rw [← hL5] at h5
          have hlen5 : L5.length ≤ L4.length + 1 := by rw [hL5, List.length_append]; exact Nat.le_refl _
          have HL5 : Hid (L5 = L4 ++ [cl[k]]) := hL5
          have J5 : Hid (Inv w.heap.size (w5.setCell ⟨w.heap.size, 0, none⟩ (.slice a5 n5 c5)) a5 n5 c5 L5 pre) := (J4.out.alloc _).step b5 h5
          have BB5 : Hid (Below w.heap.size w (w5.setCell ⟨w.heap.size, 0, none⟩ (.slice a5 n5 c5))) := (BB4.out.alloc (by omega) _).trans (below_step b5 _)
          have hs5 := J5.out.size
          clear h5 b5 hL5 J4 BB4 hc4 hs4
          go_wp2_with fail
          refine (newline w.heap.size (d) _ _ _ L5 pre _ J5.out (by omega) (by omega) (by omega) (by omega)).mono ?_
          rintro e w6 ⟨rfl, ⟨a6, n6, c6, I6⟩, b6⟩
          obtain ⟨L6, hL6⟩ : ∃ X, X = L5 ++ Plain.nl (bs pre) (d) := ⟨_, rfl⟩
          rw [← hL6] at I6
          have hlen6 : L6.length ≤ L5.length + 12400 := by rw [hL6, List.length_append, Plain.nl_length, bs_length]; omega
          have HL6 : Hid (L6 = L5 ++ Plain.nl (bs pre) (d)) := hL6
          have J6 : Hid (Inv w.heap.size w6 a6 n6 c6 L6 pre) := I6
          have BB6 : Hid (Below w.heap.size w w6) := BB5.out.trans b6
          have hc6 := I6.cell
          have hs6 := I6.size
          clear I6 b6 hL6 J5 BB5 hs5 hp5 hf5 hr5
          go_wp2
          go_roundw
          case rel => exact ⟨k + 1, f, d, false, out ++ (Plain.nl (bs pre) d ++ (cl[k] :: Plain.nl (bs pre) d)), by omega, by omega, by go_num, rfl, rfl, by omega, by omega, (Plain.good_next hlt N34.out).1 HG.out, by simp only [List.length_append, List.length_cons, Plain.nl_length, bs_length]; omega, by rw [← HR.out, Plain.rest_comma hlt HB.out]; simp, ⟨_, by rw [HL6.out, HL5.out, HL4.out, HL.out]; simp, _, _, _, J6.out⟩, BB6.out⟩
          case measure => simp [intOf]; omega
      by_cases hb : (cl[k].toNat : Int) = 58
      · have hbb : cl[k] = 58 := u8_eq hb 58 rfl
        have HB : Hid (cl[k] = 58) := hbb
        have n34 : cl[k] ≠ 34 := by rw [hbb]; decide
        have N34 : Hid (cl[k] ≠ 34) := n34
        have e125 : ((cl[k].toNat : Int) == 125) = false := beq_eq_false_iff_ne.2 (by omega)
        have e93 : ((cl[k].toNat : Int) == 93) = false := beq_eq_false_iff_ne.2 (by omega)
        have e34 : ((cl[k].toNat : Int) == 34) = false := beq_eq_false_iff_ne.2 (by omega)
        have e123 : ((cl[k].toNat : Int) == 123) = false := beq_eq_false_iff_ne.2 (by omega)
        have e91 : ((cl[k].toNat : Int) == 91) = false := beq_eq_false_iff_ne.2 (by omega)
        have e44 : ((cl[k].toNat : Int) == 44) = false := beq_eq_false_iff_ne.2 (by omega)
        have e58 : ((cl[k].toNat : Int) == 58) = true := beq_iff_eq.2 hb
        clear hb hbb n34
        cases o
        · skip
          go_wp2_with (at_builtin; refine wp_held_str rfl _ _ rfl w.heap.size a3 n3 c3 L rfl J3.out.held ⟨#[58, 32]⟩ rfl (by show _ + 2 ≤ _; omega) J3.out.size ?_)
          intro a4 n4 c4 w4 h4 b4
          obtain ⟨hp4, hf4, hr4⟩ := J3.out.place b4
          obtain ⟨L4, hL4⟩ : ∃ X, X = L ++ [58, 32] := ⟨_, rfl⟩
          have h4 : Held w.heap.size w4 a4 n4 c4 L4 := by rw [hL4]; exact h4
          have HL4 : Hid (L4 = L ++ [58, 32]) := hL4
          have J4 : Hid (Inv w.heap.size (w4.setCell ⟨w.heap.size, 0, none⟩ (.slice a4 n4 c4)) a4 n4 c4 L4 pre) := J3.out.step b4 h4
          have BB4 : Hid (Below w.heap.size w (w4.setCell ⟨w.heap.size, 0, none⟩ (.slice a4 n4 c4))) := BB3.out.trans (below_step b4 _)
          clear h4 b4 hL4 J3 BB3 hc3 hs3
          go_wp2
          go_roundw
          case rel => exact ⟨k + 1, f, d, false, out ++ [58, 32], by omega, by omega, by go_num, rfl, rfl, by omega, by omega, (Plain.good_next hlt N34.out).1 HG.out, by simp only [List.length_append, List.length_cons, List.length_nil]; omega, by rw [← HR.out, Plain.rest_colon hlt HB.out]; simp, ⟨_, by rw [HL4.out, HL.out]; simp, _, _, _, J4.out⟩, BB4.out⟩
          case measure => simp [intOf]; omega
        · skip
          go_wp2_with fail
          refine (newline w.heap.size (d) _ _ _ L pre _ J3.out (by omega) (by omega) (by omega) (by omega)).mono ?_
          rintro e w4 ⟨rfl, ⟨a4, n4, c4, I4⟩, b4⟩
          obtain ⟨L4, hL4⟩ : ∃ X, X = L ++ Plain.nl (bs pre) (d) := ⟨_, rfl⟩
          rw [← hL4] at I4
          have hlen4 : L4.length ≤ L.length + 12400 := by rw [hL4, List.length_append, Plain.nl_length, bs_length]; omega
          have HL4 : Hid (L4 = L ++ Plain.nl (bs pre) (d)) := hL4
          have J4 : Hid (Inv w.heap.size w4 a4 n4 c4 L4 pre) := I4
          have BB4 : Hid (Below w.heap.size w w4) := BB3.out.trans b4
          have hc4 := I4.cell
          have hs4 := I4.size
          clear I4 b4 hL4 J3 BB3 hs3 hc3
          go_wp2_with (at_builtin; refine wp_held_str rfl _ _ rfl w.heap.size a4 n4 c4 L4 rfl J4.out.held ⟨#[58, 32]⟩ rfl (by show _ + 2 ≤ _; omega) J4.out.size ?_)
          intro a5 n5 c5 w5 h5 b5
          obtain ⟨hp5, hf5, hr5⟩ := J4.out.place b5
          obtain ⟨L5, hL5⟩ : ∃ X, X = L4 ++ [58, 32] := ⟨_, rfl⟩
          have h5 : Held w.heap.size w5 a5 n5 c5 L5 := by rw [hL5]; exact h5
          have HL5 : Hid (L5 = L4 ++ [58, 32]) := hL5
          have J5 : Hid (Inv w.heap.size (w5.setCell ⟨w.heap.size, 0, none⟩ (.slice a5 n5 c5)) a5 n5 c5 L5 pre) := J4.out.step b5 h5
          have BB5 : Hid (Below w.heap.size w (w5.setCell ⟨w.heap.size, 0, none⟩ (.slice a5 n5 c5))) := BB4.out.trans (below_step b5 _)
          clear h5 b5 hL5 J4 BB4 hc4 hs4
          go_wp2
          go_roundw
          case rel => exact ⟨k + 1, f, d, false, out ++ (Plain.nl (bs pre) d ++ [58, 32]), by omega, by omega, by go_num, rfl, rfl, by omega, by omega, (Plain.good_next hlt N34.out).1 HG.out, by simp only [List.length_append, List.length_cons, List.length_nil, Plain.nl_length, bs_length]; omega, by rw [← HR.out, Plain.rest_colon hlt HB.out]; simp, ⟨_, by rw [HL5.out, HL4.out, HL.out]; simp, _, _, _, J5.out⟩, BB5.out⟩
          case measure => simp [intOf]; omega
      by_cases hb : (cl[k].toNat : Int) = 34
      · have hbb : cl[k] = 34 := u8_eq hb 34 rfl
        have HB : Hid (cl[k] = 34) := hbb
        have e125 : ((cl[k].toNat : Int) == 125) = false := beq_eq_false_iff_ne.2 (by omega)
        have e93 : ((cl[k].toNat : Int) == 93) = false := beq_eq_false_iff_ne.2 (by omega)
        have e34 : ((cl[k].toNat : Int) == 34) = true := beq_iff_eq.2 hb
        have e123 : ((cl[k].toNat : Int) == 123) = false := beq_eq_false_iff_ne.2 (by omega)
        have e91 : ((cl[k].toNat : Int) == 91) = false := beq_eq_false_iff_ne.2 (by omega)
        have e44 : ((cl[k].toNat : Int) == 44) = false := beq_eq_false_iff_ne.2 (by omega)
        have e58 : ((cl[k].toNat : Int) == 58) = false := beq_eq_false_iff_ne.2 (by omega)
        clear hb hbb
        obtain ⟨hcl1, hg1⟩ := (Plain.good_str hlt HB.out).1 HG.out
        obtain ⟨he1, he2⟩ := Plain.endOf_in _ _ hcl1
        obtain ⟨e, he⟩ : ∃ e, e = Plain.endOf cl cl.length (k + 1) := ⟨_, rfl⟩
        rw [← he] at hg1 he1 he2
        have HE : Hid (Plain.closes cl cl.length (k + 1) ∧ e = Plain.endOf cl cl.length (k + 1)) := ⟨hcl1, he⟩
        have HGE : Hid (Plain.good cl f (e + 1)) := hg1
        clear hcl1 hg1 he
        cases o
        · skip
          go_wp2
          go_loop [12] (fun t => ∃ j f' : Nat, k + 1 ≤ j ∧ t = .int .i64 j ∧ Plain.closes cl f' j ∧ Plain.endOf cl f' j = e) (fun t => cl.length - (intOf t).toNat)
          case atStart => exact ⟨k + 1, cl.length, Nat.le_refl _, by go_num, HE.out.1, HE.out.2.symm⟩
          case round =>
            obtain ⟨j, f', hj1, rfl, hj2, hj3⟩ := hrel
            obtain ⟨f', rfl, hjl⟩ := Plain.closes_in hj2
            have HJ : Hid (Plain.closes cl (f' + 1) j ∧ Plain.endOf cl (f' + 1) j = e) := ⟨hj2, hj3⟩
            clear hj2 hj3
            have hcj : wr.cell? ⟨cg, j, none⟩ = some (.int .u8 (cl[j].toNat : Int)) := (BB3.out.cell (by exact hcg)).trans (HC.out j hjl)
            have hji : (j : Int) < (cl.length : Int) := by omega
            by_cases q34 : (cl[j].toNat : Int) = 34
            · have r34 : ((cl[j].toNat : Int) != 34) = false := by rw [q34]; rfl
              have Q34 : Hid (cl[j] = 34) := u8_eq q34 34 rfl
              obtain rfl : e = j := by rw [← HJ.out.2, Plain.endOf_hit hjl Q34.out]
              clear q34
              have hw1 : IntKind.i64.wrap ((e : Int) + 1) = (e : Int) + 1 := by rw [IntKind.wrap_i64]; omega
              have hw2 : ((e : Int) + 1).toNat = e + 1 := by omega
              have hw3 : (0 : Int) ≤ (e : Int) + 1 := by omega
              have hw4 : (e : Int) + 1 ≤ (cc : Int) := by omega
              have hw5 : k ≤ e + 1 := by omega
              have hw6 : ¬ cc = k := by omega
              obtain ⟨M, hM⟩ : ∃ M, M = (cl.take (e + 1)).drop k := ⟨_, rfl⟩
              have hMl : M.length = e + 1 - k := by rw [hM, List.length_drop, List.length_take]; omega
              have HMC : Hid (∀ i (hi : i < M.length), wr.cell? ((⟨cg, k, none⟩ : Addr).add i) = some (.int .u8 (M[i].toNat : Int))) := by
                intro i hi
                have hil : k + i < cl.length := by omega
                rw [add_off, BB3.out.cell (by exact hcg), HC.out (k + i) hil]
                simp [hM]
              have HM : Hid (M = (cl.take (e + 1)).drop k ∧ M.length = e + 1 - k ∧ M ≠ []) := ⟨hM, hMl, fun h => by rw [h] at hMl; simp at hMl; omega⟩
              clear hM hMl
              go_wp2
              go_region_law (refine step_held_row rfl (.tmp 68) (.tmp 73) rfl w.heap.size a3 n3 c3 L rfl (by exact J3.out.held.drew) ⟨cg, k, none⟩ M (e + 1 - k) (cc - k) rfl HM.out.2.1.symm HM.out.2.2 (by exact HMC.out) (by have := HM.out.2.1; omega) (by exact J3.out.size) ?_; intro a4 n4 c4 w4 h4 b4; obtain ⟨hp4, hf4, hr4⟩ := J3.out.drew.place b4)
              have J4 : Hid (Inv w.heap.size (w4.setCell ⟨w.heap.size, 0, none⟩ (.slice a4 n4 c4)) a4 n4 c4 (L ++ M) pre) := J3.out.drew.step b4 h4
              have BB4 : Hid (Below w.heap.size w (w4.setCell ⟨w.heap.size, 0, none⟩ (.slice a4 n4 c4))) := BB3.out.drew.trans (below_step b4 _)
              clear h4 b4 J3 BB3 HMC
              go_wp2
              go_roundw
              case rel => exact ⟨e + 1, f, d, false, out ++ M, by omega, by omega, by go_num, rfl, rfl, by omega, by omega, HGE.out, by have := HM.out.2.1; simp only [List.length_append]; omega, by rw [← HR.out, Plain.rest_str hlt HB.out, ← HE.out.2, ← HM.out.1]; simp, ⟨_, by rw [HL.out]; simp, _, _, _, J4.out⟩, BB4.out⟩
              case measure => simp [intOf]; omega
            · have r34 : ((cl[j].toNat : Int) != 34) = true := by rw [bne_iff_ne]; exact q34
              have M34 : Hid (cl[j] ≠ 34) := u8_ne q34 34 rfl
              by_cases q92 : (cl[j].toNat : Int) = 92
              · have r92 : ((cl[j].toNat : Int) == 92) = true := beq_iff_eq.2 q92
                have Q92 : Hid (cl[j] = 92) := u8_eq q92 92 rfl
                clear q92 q34
                go_wp2
                go_round
                case rel => exact ⟨j + 2, f', by omega, by go_num, (Plain.closes_esc hjl Q92.out).1 HJ.out.1, by rw [← HJ.out.2, Plain.endOf_esc hjl Q92.out]⟩
                case measure => simp [intOf]; omega
              · have r92 : ((cl[j].toNat : Int) == 92) = false := beq_eq_false_iff_ne.2 q92
                have M92 : Hid (cl[j] ≠ 92) := u8_ne q92 92 rfl
                go_wp2
                go_round
                case rel => exact ⟨j + 1, f', by omega, by go_num, (Plain.closes_next hjl M34.out M92.out).1 HJ.out.1, by rw [← HJ.out.2, Plain.endOf_next hjl M34.out M92.out]⟩
                case measure => simp [intOf]; omega
        · skip
          go_wp2_with fail
          refine (newline w.heap.size (d) _ _ _ L pre _ J3.out (by omega) (by omega) (by omega) (by omega)).mono ?_
          rintro e w4 ⟨rfl, ⟨a4, n4, c4, I4⟩, b4⟩
          obtain ⟨L4, hL4⟩ : ∃ X, X = L ++ Plain.nl (bs pre) (d) := ⟨_, rfl⟩
          rw [← hL4] at I4
          have hlen4 : L4.length ≤ L.length + 12400 := by rw [hL4, List.length_append, Plain.nl_length, bs_length]; omega
          have HL4 : Hid (L4 = L ++ Plain.nl (bs pre) (d)) := hL4
          have J4 : Hid (Inv w.heap.size w4 a4 n4 c4 L4 pre) := I4
          have BB4 : Hid (Below w.heap.size w w4) := BB3.out.trans b4
          have hc4 := I4.cell
          have hs4 := I4.size
          clear I4 b4 hL4 J3 BB3 hs3 hc3
          go_wp2
          go_loop [12] (fun t => ∃ j f' : Nat, k + 1 ≤ j ∧ t = .int .i64 j ∧ Plain.closes cl f' j ∧ Plain.endOf cl f' j = e) (fun t => cl.length - (intOf t).toNat)
          case atStart => exact ⟨k + 1, cl.length, Nat.le_refl _, by go_num, HE.out.1, HE.out.2.symm⟩
          case round =>
            obtain ⟨j, f', hj1, rfl, hj2, hj3⟩ := hrel
            obtain ⟨f', rfl, hjl⟩ := Plain.closes_in hj2
            have HJ : Hid (Plain.closes cl (f' + 1) j ∧ Plain.endOf cl (f' + 1) j = e) := ⟨hj2, hj3⟩
            clear hj2 hj3
            have hcj : w4.cell? ⟨cg, j, none⟩ = some (.int .u8 (cl[j].toNat : Int)) := (BB4.out.cell (by exact hcg)).trans (HC.out j hjl)
            have hji : (j : Int) < (cl.length : Int) := by omega
            by_cases q34 : (cl[j].toNat : Int) = 34
            · have r34 : ((cl[j].toNat : Int) != 34) = false := by rw [q34]; rfl
              have Q34 : Hid (cl[j] = 34) := u8_eq q34 34 rfl
              obtain rfl : e = j := by rw [← HJ.out.2, Plain.endOf_hit hjl Q34.out]
              clear q34
              have hw1 : IntKind.i64.wrap ((e : Int) + 1) = (e : Int) + 1 := by rw [IntKind.wrap_i64]; omega
              have hw2 : ((e : Int) + 1).toNat = e + 1 := by omega
              have hw3 : (0 : Int) ≤ (e : Int) + 1 := by omega
              have hw4 : (e : Int) + 1 ≤ (cc : Int) := by omega
              have hw5 : k ≤ e + 1 := by omega
              have hw6 : ¬ cc = k := by omega
              obtain ⟨M, hM⟩ : ∃ M, M = (cl.take (e + 1)).drop k := ⟨_, rfl⟩
              have hMl : M.length = e + 1 - k := by rw [hM, List.length_drop, List.length_take]; omega
              have HMC : Hid (∀ i (hi : i < M.length), w4.cell? ((⟨cg, k, none⟩ : Addr).add i) = some (.int .u8 (M[i].toNat : Int))) := by
                intro i hi
                have hil : k + i < cl.length := by omega
                rw [add_off, BB4.out.cell (by exact hcg), HC.out (k + i) hil]
                simp [hM]
              have HM : Hid (M = (cl.take (e + 1)).drop k ∧ M.length = e + 1 - k ∧ M ≠ []) := ⟨hM, hMl, fun h => by rw [h] at hMl; simp at hMl; omega⟩
              clear hM hMl
              go_wp2
              go_region_law (refine step_held_row rfl (.tmp 68) (.tmp 73) rfl w.heap.size a4 n4 c4 L4 rfl (by exact J4.out.held.drew) ⟨cg, k, none⟩ M (e + 1 - k) (cc - k) rfl HM.out.2.1.symm HM.out.2.2 (by exact HMC.out) (by have := HM.out.2.1; omega) (by exact J4.out.size) ?_; intro a5 n5 c5 w5 h5 b5; obtain ⟨hp5, hf5, hr5⟩ := J4.out.drew.place b5)
              have J5 : Hid (Inv w.heap.size (w5.setCell ⟨w.heap.size, 0, none⟩ (.slice a5 n5 c5)) a5 n5 c5 (L4 ++ M) pre) := J4.out.drew.step b5 h5
              have BB5 : Hid (Below w.heap.size w (w5.setCell ⟨w.heap.size, 0, none⟩ (.slice a5 n5 c5))) := BB4.out.drew.trans (below_step b5 _)
              clear h5 b5 J4 BB4 HMC
              go_wp2
              go_roundw
              case rel => exact ⟨e + 1, f, d, false, out ++ (Plain.nl (bs pre) d ++ M), by omega, by omega, by go_num, rfl, rfl, by omega, by omega, HGE.out, by have := HM.out.2.1; simp only [List.length_append, Plain.nl_length, bs_length]; omega, by rw [← HR.out, Plain.rest_str hlt HB.out, ← HE.out.2, ← HM.out.1]; simp, ⟨_, by rw [HL4.out, HL.out]; simp, _, _, _, J5.out⟩, BB5.out⟩
              case measure => simp [intOf]; omega
            · have r34 : ((cl[j].toNat : Int) != 34) = true := by rw [bne_iff_ne]; exact q34
              have M34 : Hid (cl[j] ≠ 34) := u8_ne q34 34 rfl
              by_cases q92 : (cl[j].toNat : Int) = 92
              · have r92 : ((cl[j].toNat : Int) == 92) = true := beq_iff_eq.2 q92
                have Q92 : Hid (cl[j] = 92) := u8_eq q92 92 rfl
                clear q92 q34
                go_wp2
                go_round
                case rel => exact ⟨j + 2, f', by omega, by go_num, (Plain.closes_esc hjl Q92.out).1 HJ.out.1, by rw [← HJ.out.2, Plain.endOf_esc hjl Q92.out]⟩
                case measure => simp [intOf]; omega
              · have r92 : ((cl[j].toNat : Int) == 92) = false := beq_eq_false_iff_ne.2 q92
                have M92 : Hid (cl[j] ≠ 92) := u8_ne q92 92 rfl
                go_wp2
                go_round
                case rel => exact ⟨j + 1, f', by omega, by go_num, (Plain.closes_next hjl M34.out M92.out).1 HJ.out.1, by rw [← HJ.out.2, Plain.endOf_next hjl M34.out M92.out]⟩
                case measure => simp [intOf]; omega
      have e125 : ((cl[k].toNat : Int) == 125) = false := beq_eq_false_iff_ne.2 (by omega)
      have e93 : ((cl[k].toNat : Int) == 93) = false := beq_eq_false_iff_ne.2 (by omega)
      have e34 : ((cl[k].toNat : Int) == 34) = false := beq_eq_false_iff_ne.2 (by omega)
      have e123 : ((cl[k].toNat : Int) == 123) = false := beq_eq_false_iff_ne.2 (by omega)
      have e91 : ((cl[k].toNat : Int) == 91) = false := beq_eq_false_iff_ne.2 (by omega)
      have e44 : ((cl[k].toNat : Int) == 44) = false := beq_eq_false_iff_ne.2 (by omega)
      have e58 : ((cl[k].toNat : Int) == 58) = false := beq_eq_false_iff_ne.2 (by omega)
      have m125 : cl[k] ≠ 125 := u8_ne (n := 125) (by omega) 125 rfl
      have m93 : cl[k] ≠ 93 := u8_ne (n := 93) (by omega) 93 rfl
      have m34 : cl[k] ≠ 34 := u8_ne (n := 34) (by omega) 34 rfl
      have m123 : cl[k] ≠ 123 := u8_ne (n := 123) (by omega) 123 rfl
      have m91 : cl[k] ≠ 91 := u8_ne (n := 91) (by omega) 91 rfl
      have m44 : cl[k] ≠ 44 := u8_ne (n := 44) (by omega) 44 rfl
      have m58 : cl[k] ≠ 58 := u8_ne (n := 58) (by omega) 58 rfl
      have N34 : Hid (cl[k] ≠ 34) := m34
      have HP : Hid (∀ d o, Plain.rest cl (bs pre) (f + 1) k d o = (if o then Plain.nl (bs pre) d else []) ++ (cl[k] :: Plain.rest cl (bs pre) f (k + 1) d false)) := fun d o => Plain.rest_plain hlt m125 m93 m34 m123 m91 m44 m58
      clear m125 m93 m34 m123 m91 m44 m58
      cases o
      · skip
        go_wp2_with (at_builtin; refine wp_held_row rfl _ _ rfl w.heap.size a3 n3 c3 L rfl (J3.out.held.alloc _) ⟨wr.heap.size, 0, none⟩ [cl[k]] 1 rfl (by simp) (by intro j hj; match j, hj with | 0, _ => simp [Addr.add]) (by simp; omega) (by simp; omega) ?_)
        intro a4 n4 c4 w4 h4 b4
        obtain ⟨hp4, hf4, hr4⟩ := (J3.out.alloc _).place b4
        obtain ⟨L4, hL4⟩ : ∃ X, X = L ++ [cl[k]] := ⟨_, rfl⟩
        rw [← hL4] at h4
        have hlen4 : L4.length ≤ L.length + 1 := by rw [hL4, List.length_append]; exact Nat.le_refl _
        have HL4 : Hid (L4 = L ++ [cl[k]]) := hL4
        have J4 : Hid (Inv w.heap.size (w4.setCell ⟨w.heap.size, 0, none⟩ (.slice a4 n4 c4)) a4 n4 c4 L4 pre) := (J3.out.alloc _).step b4 h4
        have BB4 : Hid (Below w.heap.size w (w4.setCell ⟨w.heap.size, 0, none⟩ (.slice a4 n4 c4))) := (BB3.out.alloc (by omega) _).trans (below_step b4 _)
        have hs4 := J4.out.size
        clear h4 b4 hL4 J3 BB3 hc3 hs3
        go_wp2
        go_roundw
        case rel => exact ⟨k + 1, f, d, false, out ++ [cl[k]], by omega, by omega, by go_num, rfl, rfl, by omega, by omega, (Plain.good_next hlt N34.out).1 HG.out, by simp only [List.length_append, List.length_cons, List.length_nil]; omega, by rw [← HR.out, HP.out]; simp, ⟨_, by rw [HL4.out, HL.out]; simp, _, _, _, J4.out⟩, BB4.out⟩
        case measure => simp [intOf]; omega
      · skip
        go_wp2_with fail
        refine (newline w.heap.size (d) _ _ _ L pre _ J3.out (by omega) (by omega) (by omega) (by omega)).mono ?_
        rintro e w4 ⟨rfl, ⟨a4, n4, c4, I4⟩, b4⟩
        obtain ⟨L4, hL4⟩ : ∃ X, X = L ++ Plain.nl (bs pre) (d) := ⟨_, rfl⟩
        rw [← hL4] at I4
        have hlen4 : L4.length ≤ L.length + 12400 := by rw [hL4, List.length_append, Plain.nl_length, bs_length]; omega
        have HL4 : Hid (L4 = L ++ Plain.nl (bs pre) (d)) := hL4
        have J4 : Hid (Inv w.heap.size w4 a4 n4 c4 L4 pre) := I4
        have BB4 : Hid (Below w.heap.size w w4) := BB3.out.trans b4
        have hc4 := I4.cell
        have hs4 := I4.size
        clear I4 b4 hL4 J3 BB3 hs3 hc3
        go_wp2_with (at_builtin; refine wp_held_row rfl _ _ rfl w.heap.size a4 n4 c4 L4 rfl (J4.out.held.alloc _) ⟨w4.heap.size, 0, none⟩ [cl[k]] 1 rfl (by simp) (by intro j hj; match j, hj with | 0, _ => simp [Addr.add]) (by simp; omega) (by simp; omega) ?_)
        intro a5 n5 c5 w5 h5 b5
        obtain ⟨hp5, hf5, hr5⟩ := (J4.out.alloc _).place b5
        obtain ⟨L5, hL5⟩ : ∃ X, X = L4 ++ [cl[k]] := ⟨_, rfl⟩
        rw [← hL5] at h5
        have hlen5 : L5.length ≤ L4.length + 1 := by rw [hL5, List.length_append]; exact Nat.le_refl _
        have HL5 : Hid (L5 = L4 ++ [cl[k]]) := hL5
        have J5 : Hid (Inv w.heap.size (w5.setCell ⟨w.heap.size, 0, none⟩ (.slice a5 n5 c5)) a5 n5 c5 L5 pre) := (J4.out.alloc _).step b5 h5
        have BB5 : Hid (Below w.heap.size w (w5.setCell ⟨w.heap.size, 0, none⟩ (.slice a5 n5 c5))) := (BB4.out.alloc (by omega) _).trans (below_step b5 _)
        have hs5 := J5.out.size
        clear h5 b5 hL5 J4 BB4 hc4 hs4
        go_wp2
        go_roundw
        case rel => exact ⟨k + 1, f, d, false, out ++ (Plain.nl (bs pre) d ++ [cl[k]]), by omega, by omega, by go_num, rfl, rfl, by omega, by omega, (Plain.good_next hlt N34.out).1 HG.out, by simp only [List.length_append, List.length_cons, List.length_nil, Plain.nl_length, bs_length]; omega, by rw [← HR.out, HP.out]; simp, ⟨_, by rw [HL5.out, HL4.out, HL.out]; simp, _, _, _, J5.out⟩, BB5.out⟩
        case measure => simp [intOf]; omega
    · go_wp2
      go_ret
      have hTo : T = out := by rw [← HR.out, Plain.rest_end hlt, List.append_nil]
      have hfin : View wr a3 n3 c3 (l ++ T) := by
        have e : L = l ++ T := by rw [HL.out, hTo]
        rw [← e]
        exact J3.out.held.view (by omega) (by omega)
      exact ⟨a3, n3, c3, rfl, hfin, by rw [hTo]; omega, BB3.out⟩
end Go.Proofs.Qxb6600108a
