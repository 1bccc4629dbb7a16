/-
  The law's own scan: where it answers true, every string of compact ends.
-/
import Derived.Test.Qxb6600108aWalksA
namespace Go.Proofs.Qxb6600108a
open Go.RowKit

theorem u8_ne {c : UInt8} {n : Nat} (h : (c.toNat : Int) ≠ (n : Int)) (d : UInt8) (hd : d.toNat = n) : c ≠ d := by
  rintro rfl
  exact h (by rw [hd])

theorem u8_eq {c : UInt8} {n : Nat} (h : (c.toNat : Int) = (n : Int)) (d : UInt8) (hd : d.toNat = n) : c = d := UInt8.toNat_inj.1 (by omega)

theorem scan_empty (a : Option Addr) (cap : Nat) (w : World) :
    Calls Try.prog 11 #[.slice a 0 cap, .bool false] w fun e w' => e = .returned (.bool true) ∧ w' = w := by
  go_enter Try.func11, Try.ntmps11
  go_wp2
  refine wp_loop_rounds 1 ?_
  rw [rounds_succ]
  go_wp2
  go_ret
  exact ⟨rfl, rfl⟩

set_option maxHeartbeats 1600000 in
theorem scan_row (g off cap : Nat) (c : List UInt8) (w : World) (hl : c.length ≤ 1000000) (hc : ∀ j (hj : j < c.length), w.cell? ⟨g, off + j, none⟩ = some (.int .u8 (c[j].toNat : Int))) :
    Calls Try.prog 11 #[.slice (some ⟨g, off, none⟩) c.length cap, .bool false] w fun e w' => (e = .returned (.bool false) ∨ (e = .returned (.bool true) ∧ Plain.good c c.length 0)) ∧ w' = w := by
  go_enter Try.func11, Try.ntmps11
  go_wp2
  go_loop [6] (fun t => ∃ i f : Nat, i ≤ c.length ∧ t = .int .i64 i ∧ c.length ≤ f + i ∧ (Plain.good c f i → Plain.good c c.length 0)) (fun t => c.length - (intOf t).toNat)
  case atStart => exact ⟨0, c.length, Nat.zero_le _, rfl, Nat.le_refl _, id⟩
  case round =>
    obtain ⟨i, f, hi, rfl, hf, hgood⟩ := hrel
    have HG : Hid (Plain.good c f i → Plain.good c c.length 0) := hgood
    clear hgood
    by_cases hlt : i < c.length
    · have hci := hc i hlt
      obtain ⟨f, rfl⟩ : ∃ f', f = f' + 1 := ⟨f - 1, by omega⟩
      by_cases h34 : (c[i].toNat : Int) = 34
      · have b34 : ((c[i].toNat : Int) == 34) = true := beq_iff_eq.2 h34
        have H34 : Hid (c[i] = 34) := u8_eq h34 34 rfl
        clear h34
        go_wp2
        go_loop [8] (fun t => ∃ j f', i + 1 ≤ j ∧ j ≤ c.length + 1 ∧ t = .int .i64 (j : Nat) ∧ c.length + i + 1 ≤ f' + j ∧ (Plain.closes c f' j → Plain.closes c c.length (i + 1)) ∧ Plain.endOf c f' j = Plain.endOf c c.length (i + 1)) (fun t => c.length + 2 - (intOf t).toNat)
        case atStart => exact ⟨i + 1, c.length, Nat.le_refl _, by omega, by go_num, by omega, id, rfl⟩
        case round =>
          obtain ⟨j, f', hj1, hj2, rfl, hf', hcl, hend⟩ := hrel
          have HC : Hid ((Plain.closes c f' j → Plain.closes c c.length (i + 1)) ∧ Plain.endOf c f' j = Plain.endOf c c.length (i + 1)) := ⟨hcl, hend⟩
          clear hcl hend
          by_cases hjl : j < c.length
          · have hcj := hc j hjl
            obtain ⟨f', rfl⟩ : ∃ x, f' = x + 1 := ⟨f' - 1, by omega⟩
            by_cases q34 : (c[j].toNat : Int) = 34
            · have e34 : ((c[j].toNat : Int) == 34) = true := beq_iff_eq.2 q34
              have Q34 : Hid (c[j] = 34) := u8_eq q34 34 rfl
              clear q34
              go_wp2
              go_round
              case rel =>
                have he : Plain.endOf c c.length (i + 1) = j := by rw [← HC.out.2, Plain.endOf_hit hjl Q34.out]
                exact ⟨j + 1, f, by omega, by go_num, by omega, fun h => HG.out ((Plain.good_str hlt H34.out).2 ⟨HC.out.1 (Plain.closes_hit hjl Q34.out), by rw [he]; exact h⟩)⟩
              case measure => simp [intOf]; omega
            · have e34 : ((c[j].toNat : Int) == 34) = false := beq_eq_false_iff_ne.2 q34
              have n34 : c[j] ≠ 34 := u8_ne q34 34 rfl
              have N34 : Hid (c[j] ≠ 34) := n34
              clear n34
              by_cases q92 : (c[j].toNat : Int) = 92
              · have e92 : ((c[j].toNat : Int) == 92) = true := beq_iff_eq.2 q92
                have Q92 : Hid (c[j] = 92) := u8_eq q92 92 rfl
                clear q92 q34
                go_wp2
                go_round
                case rel => exact ⟨j + 2, f', by omega, by omega, by go_num, by omega, fun h => HC.out.1 ((Plain.closes_esc hjl Q92.out).2 h), by rw [← HC.out.2, Plain.endOf_esc hjl Q92.out]⟩
                case measure => simp [intOf]; omega
              · have e92 : ((c[j].toNat : Int) == 92) = false := beq_eq_false_iff_ne.2 q92
                have N92 : Hid (c[j] ≠ 92) := u8_ne q92 92 rfl
                go_wp2
                go_round
                case rel => exact ⟨j + 1, f', by omega, by omega, by go_num, by omega, fun h => HC.out.1 ((Plain.closes_next hjl N34.out N92.out).2 h), by rw [← HC.out.2, Plain.endOf_next hjl N34.out N92.out]⟩
                case measure => simp [intOf]; omega
          · go_wp2
            go_ret
            exact ⟨.inl rfl, rfl⟩
      · have b34 : ((c[i].toNat : Int) == 34) = false := beq_eq_false_iff_ne.2 h34
        go_wp2
        go_round
        case rel => exact ⟨i + 1, f, by omega, by go_num, by omega, fun h => HG.out ((Plain.good_next hlt (u8_ne h34 34 rfl)).2 h)⟩
        case measure => simp [intOf]; omega
    · go_wp2
      go_ret
      exact ⟨.inr ⟨rfl, HG.out (Plain.good_end hlt)⟩, rfl⟩

theorem scan (a : Option Addr) (n cap : Nat) (c : List UInt8) (w : World) (h : Reads w a n c) (hl : n ≤ 1000000) :
    Calls Try.prog 11 #[.slice a n cap, .bool false] w fun e w' => (e = .returned (.bool false) ∨ (e = .returned (.bool true) ∧ Plain.good c c.length 0)) ∧ w' = w := by
  obtain ⟨rfl, rfl | ⟨g, off, rfl, _, hc⟩⟩ := h
  · refine (scan_empty a cap w).mono ?_
    rintro e w' ⟨rfl, rfl⟩
    exact ⟨.inr ⟨rfl, trivial⟩, rfl⟩
  · exact scan_row g off cap c w hl hc
end Go.Proofs.Qxb6600108a
