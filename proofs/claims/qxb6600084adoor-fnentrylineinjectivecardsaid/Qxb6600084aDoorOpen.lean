/-
  What the rows' proofs share: an argument of bytes opened, a struct of nine fields opened, the table out of the row's list, one start that fits.
-/
import Derived.Test.Qxb6600084aDoorWalksF
import Derived.ProofKit
import Derived.LaidMore
import Derived.OpenShut
import Derived.Stop.Joined
import Derived.Stop.LaidErr
import Derived.Lib.LaidTab
import Derived.ChangeOld
namespace Go.Proofs.Qxb6600084aDoor
open Go.ChangeShapes Go.WideShapes Go.ChangeAt Go.RowKit

theorem own : ownKnob Tryd.prog.godebug = none := by kernel_rfl
theorem laidOut : laidOutB Tryd.prog = true := by kernel_rfl
theorem gPow : Tryd.prog.globalNamed powName = some 0 := by kernel_rfl

theorem array9 {α : Type} {cs : Array α} (h : cs.size = 9) : ∃ c0 c1 c2 c3 c4 c5 c6 c7 c8, cs = #[c0, c1, c2, c3, c4, c5, c6, c7, c8] := by
  obtain ⟨l⟩ := cs
  match l, h with
  | [c0, c1, c2, c3, c4, c5, c6, c7, c8], _ => exact ⟨c0, c1, c2, c3, c4, c5, c6, c7, c8, rfl⟩

theorem cells25 : Tryd.prog.cellsOf 25 = 9 := by kernel_rfl
theorem cells9 : Tryd.prog.cellsOf 9 = 1 := by kernel_rfl
theorem cells2 : Tryd.prog.cellsOf 2 = 1 := by kernel_rfl
theorem cells5 : Tryd.prog.cellsOf 5 = 1 := by kernel_rfl

/-- A seal's struct that came in by value. -/
theorem open_seal {H : Type} {enc : TypeId × Value → H} {W : World} {r : Reach} {b0 base : Nat} {sp : Nat → Bool} {held : Bool} {v : Value} {d : DataW H} {p : List MemPlace}
    (hv : Value.okWide Tryd.prog W r b0 25 v) (h : DataW.Trod enc Tryd.prog W base sp held 25 v d p) :
    ∃ (s0 s2 s3 s4 s5 s6 s7 s8 : ByteArray) (q : Int), v = .agg #[.string s0, .int .i64 q, .string s2, .string s3, .string s4, .string s5, .string s6, .string s7, .string s8] ∧ -9223372036854775808 ≤ q ∧ q ≤ 9223372036854775807 := by
  obtain ⟨cs, rfl, hsz⟩ := okWide_struct Tryd.underlying25 hv
  obtain ⟨c0, c1, c2, c3, c4, c5, c6, c7, c8, rfl⟩ := array9 (hsz.trans cells25)
  obtain ⟨fuel, hf⟩ := h
  obtain ⟨xs, n, _, _, _, hlen, hg⟩ := DataW.trod_struct Tryd.underlying25 hf
  have hx : ∀ i, i < 9 → ∃ x, xs[i]? = some x := fun i hi => ⟨_, List.getElem?_eq_getElem (by rw [hlen]; exact hi)⟩
  obtain ⟨x0, e0⟩ := hx 0 (by omega)
  obtain ⟨x1, e1⟩ := hx 1 (by omega)
  obtain ⟨x2, e2⟩ := hx 2 (by omega)
  obtain ⟨x3, e3⟩ := hx 3 (by omega)
  obtain ⟨x4, e4⟩ := hx 4 (by omega)
  obtain ⟨x5, e5⟩ := hx 5 (by omega)
  obtain ⟨x6, e6⟩ := hx 6 (by omega)
  obtain ⟨x7, e7⟩ := hx 7 (by omega)
  obtain ⟨x8, e8⟩ := hx 8 (by omega)
  have g0 := hg 0 _ rfl
  have g1 := hg 1 _ rfl
  have g2 := hg 2 _ rfl
  have g3 := hg 3 _ rfl
  have g4 := hg 4 _ rfl
  have g5 := hg 5 _ rfl
  have g6 := hg 6 _ rfl
  have g7 := hg 7 _ rfl
  have g8 := hg 8 _ rfl
  rw [e0] at g0
  rw [e1] at g1
  rw [e2] at g2
  rw [e3] at g3
  rw [e4] at g4
  rw [e5] at g5
  rw [e6] at g6
  rw [e7] at g7
  rw [e8] at g8
  obtain ⟨s0, a0, _⟩ := DataW.trod_string Tryd.underlying9 g0
  obtain ⟨q, a1, _, wq⟩ := DataW.trod_int Tryd.underlying2 g1
  obtain ⟨s2, a2, _⟩ := DataW.trod_string Tryd.underlying9 g2
  obtain ⟨s3, a3, _⟩ := DataW.trod_string Tryd.underlying9 g3
  obtain ⟨s4, a4, _⟩ := DataW.trod_string Tryd.underlying9 g4
  obtain ⟨s5, a5, _⟩ := DataW.trod_string Tryd.underlying9 g5
  obtain ⟨s6, a6, _⟩ := DataW.trod_string Tryd.underlying9 g6
  obtain ⟨s7, a7, _⟩ := DataW.trod_string Tryd.underlying9 g7
  obtain ⟨s8, a8, _⟩ := DataW.trod_string Tryd.underlying9 g8
  simp [Value.cells, cells9] at a0 a2 a3 a4 a5 a6 a7 a8
  simp [Value.cells, cells2] at a1
  have hb := bounds_i64 wq
  refine ⟨s0, s2, s3, s4, s5, s6, s7, s8, q, ?_, hb.1, hb.2⟩
  rw [a0, a1, a2, a3, a4, a5, a6, a7, a8]

/-- A slice of bytes that came in. -/
theorem open_bytes {H : Type} {enc : TypeId × Value → H} {W : World} {r : Reach} {b0 base : Nat} {v : Value} {d : DataW H} {p : List MemPlace}
    (hv : Value.okWide Tryd.prog W r b0 22 v) (h : DataW.Trod enc Tryd.prog W base (fun _ => true) true 22 v d p) :
    ∃ (a : Option Addr) (cap : Nat) (l : List UInt8), v = .slice a l.length cap ∧ RowOf W a cap l := by
  obtain ⟨a0, len, cap, rfl⟩ := okWide_slice Tryd.underlying22 hv
  obtain ⟨fuel, hf⟩ := h
  rcases open_ints Tryd.underlying22 Tryd.underlying5 cells5 hf with ⟨hcs, _⟩ | ⟨x, l, c, zs, hcs, _, hl, hm, hz, _, hcell, hwz⟩
  · simp [Value.cells] at hcs
    obtain ⟨rfl, rfl, rfl⟩ := hcs
    exact ⟨none, 0, [], rfl, .inl ⟨rfl, rfl, rfl⟩⟩
  · simp [Value.cells] at hcs
    obtain ⟨rfl, rfl, rfl⟩ := hcs
    have hzl : zs.length = cap := by simpa using hz
    by_cases h0 : len = 0
    · subst h0
      exact ⟨some x, cap, [], rfl, .inr (.inl ⟨x, rfl, rfl⟩)⟩
    · obtain ⟨b, off, rfl, hc⟩ := ints_at hcell (by omega)
      have hll : ((zs.take len).map fun z => UInt8.ofNat z.toNat).length = len := by simp; omega
      refine ⟨some ⟨b, off, none⟩, cap, (zs.take len).map fun z => UInt8.ofNat z.toNat, by rw [hll], .inr (.inr ⟨b, off, rfl, ?_, fun j hj => ?_⟩)⟩
      · exact World.block_lt_of_cell? W ⟨b, off + 0, none⟩ (hc 0 (by omega))
      · have hjl : j < len := by omega
        rw [hc j (by omega)]
        have hjz : j < zs.length := by omega
        have e : zs.getD j 0 = zs[j] := by simp [List.getD, List.getElem?_eq_getElem hjz]
        have hw := bounds_u8 (hwz zs[j] (List.getElem_mem hjz))
        rw [e]
        simp only [List.getElem_map, List.getElem_take, UInt8.toNat_ofNat']
        congr 2
        omega

/-- The table, out of the row's list. -/
theorem table {W : World} (h : laidMetH Tryd.prog Rows.fnEntryLineIsOneLineRow.laid W) : Lib.TabIs Tryd.prog W powName .u64 Lib.pow10Tab := by
  rw [MakeChecks.laidMetH_plain _ _ _ (by kernel_rfl)] at h
  have h2 : laidMet Tryd.prog [(powName, Lib.tabData .u64 Lib.pow10Tab)] W := h.tail.tail
  exact Lib.tabIs_of_head gPow (by kernel_rfl) Tryd.underlying56 Tryd.underlying46 (by kernel_rfl) (by kernel_rfl) h2

end Go.Proofs.Qxb6600084aDoor
