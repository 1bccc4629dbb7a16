/-
  A proof of the tied card of FnEntryLineIsOneLine.
-/
import Derived.Test.Qxb6600084aDoorOpen
import Derived.Test.Qxb6600084aDoorTie
import Derived.Test.Qxb6600084aDoorCards
import Derived.SevenTiedAt
namespace Go.Proofs.Qxb6600084aDoor.fnEntryLineIsOneLine
open Go.ChangeShapes Go.WideShapes Go.ChangeAt Go.RowKit

theorem walk (a : Option Addr) (cap : Nat) (r : List UInt8) (s0 s2 s3 s4 s5 s6 s7 s8 : ByteArray) (q : Int) (w : World) (hq0 : -9223372036854775808 ≤ q) (hq1 : q ≤ 9223372036854775807) (hrow : RowOf w a cap r) (htab : Lib.TabIs Tryd.prog w powName .u64 Lib.pow10Tab) :
    Calls Tryd.prog 6 #[.slice a r.length cap, .agg #[.string s0, .int .i64 q, .string s2, .string s3, .string s4, .string s5, .string s6, .string s7, .string s8]] w fun e w' => e = .returned (.bool true) ∧ Below w.heap.size w w' := by
  by_cases h : r.length + s0.size + s2.size + s3.size + s4.size + s5.size + s6.size + s7.size + s8.size ≤ 1048576
  · exact one_small a cap r s0 s2 s3 s4 s5 s6 s7 s8 q w hq0 hq1 h hrow htab
  · exact one_big a r.length cap s0 s2 s3 s4 s5 s6 s7 s8 q w h

/-- The heap that the initialisers leave meets the row's list. -/
theorem door_met (os : Os) (args : Array Value) : laidMetH Tryd.prog Rows.fnEntryLineIsOneLineRow.laid ((World.doorLaid Tryd.prog 24 os).forCall (fun _ _ => 0) ⟨#[], args, []⟩).memory :=
  laidMetH_of_parts3 (fuel := 8) (laidMet_of_run' 8 (by kernel_rfl) (by kernel_rfl)) (by kernel_rfl) (by kernel_rfl)

set_option maxRecDepth 100000 in
theorem lifted (os : Os) (started : os.Started) (H : Type) (enc : TypeId × Value → H) :
    ReturnsInHanded {} Tryd.checked os 6 .any (fun w args => (Rows.fnEntryLineIsOneLineSpec.pre enc Tryd.prog Tryd.f6 [] false w args ∧ laidMetH Tryd.prog Rows.fnEntryLineIsOneLineRow.laid w) ∧ sizedMet enc Tryd.prog Tryd.f6 (OpenSpec.ofChange Rows.fnEntryLineIsOneLineSpec) false w args)
      (Rows.fnEntryLineIsOneLineSpec.post enc Tryd.prog Tryd.f6 false true false false) := by
  refine returnsInHanded_of_change_and (C := Tryd.checked) (X := fun w _ => laidMetH Tryd.prog Rows.fnEntryLineIsOneLineRow.laid w) (fun _ _ _ hh h => h.of_heap hh) own started (by kernel_rfl) Tryd.func6
    (ChangeSpec.witness_shaped (enc := enc) (C := Tryd.checked) (os := os) (X := fun w _ => laidMetH Tryd.prog Rows.fnEntryLineIsOneLineRow.laid w) false (World.doorLaid Tryd.prog 24 os)
      #[.slice none 0 0, .agg #[.string ByteArray.empty, .int .i64 0, .string ByteArray.empty, .string ByteArray.empty, .string ByteArray.empty, .string ByteArray.empty, .string ByteArray.empty, .string ByteArray.empty, .string ByteArray.empty]] 8 rfl
      (World.shaped_of_RefB (by kernel_rfl) (by kernel_rfl)) (by kernel_rfl) (by kernel_rfl) (by kernel_rfl) (door_met os _)) ?_
  intro W base args ds gs before hval0 hW _ _ hL _
  have hval : ∀ (j : Nat) t v, Tryd.f6.params[j]? = some t → args[j]? = some v → Value.okWide Tryd.prog W .any base t v := hval0
  have hW' := hW
  obtain ⟨p, q, hA0, hV, rfl, hfz, hnd⟩ := hW
  have hA : DataW.TrodAll enc Tryd.prog W 0 (fun _ => true) true Tryd.f6.params.toList args.toList ds p := hA0
  rw [Tryd.params6] at hA hval
  obtain ⟨v0, v1, d0, d1, p0, p1, rfl, rfl, rfl, h0, h1⟩ := trodAll_two hA
  obtain ⟨rfl, rfl⟩ := trodVars_none hV
  have lt0 : ∀ x ∈ p0, x.block < W.heap.size := by obtain ⟨m, hm⟩ := h0; exact DataW.trod_lt m _ _ _ hm
  have lt1 : ∀ x ∈ p1, x.block < W.heap.size := by obtain ⟨m, hm⟩ := h1; exact DataW.trod_lt m _ _ _ hm
  obtain ⟨a, cap, r, rfl, hrow⟩ := open_bytes (hval 0 22 v0 rfl rfl) h0
  obtain ⟨s0, s2, s3, s4, s5, s6, s7, s8, n, rfl, hq0, hq1⟩ := open_seal (hval 1 25 v1 rfl rfl) h1
  clear hA0 hval0
  refine (walk a cap r s0 s2 s3 s4 s5 s6 s7 s8 n W hq0 hq1 hrow (table hL)).mono fun e W' ⟨he, bel⟩ => ?_
  subst he
  exact ⟨_, rfl, _, _, _, [], _, [], hW', trodAll_mk1 (shut_bool Tryd.underlying4 _), trodAll_mk2 (Below.trod laidOut (by kernel_rfl) (of_decide_eq_true (by kernel_rfl)) h0 bel lt0) (Below.trod laidOut (by kernel_rfl) (of_decide_eq_true (by kernel_rfl)) h1 bel lt1), rfl, bel.frame _, fun h => by cases h⟩

theorem over : Rows.FnEntryLineIsOneLineSaid :=
  OpenClaim.holds_of_wide 6 Tryd.f6 rfl rfl rfl rfl rfl rfl rfl ⟨rfl, rfl, rfl, rfl, rfl⟩ rfl rfl rfl rfl rfl (by kernel_rfl) Tryd.func6 (by kernel_rfl)
    (of_decide_eq_true (by kernel_rfl)) (by unfold Func.isWrapper; first | (rw [if_pos (by decide +kernel)]; kernel_rfl) | (rw [if_neg (by decide +kernel)]; exact ⟨rfl, rfl⟩))
    (fun os started H enc _ => lifted os started H enc)

theorem proved : Rows.FnEntryLineIsOneLineCardSaid :=
  Claim7.holds_tied_plain_at .later [] [.data, .data, .data] true Rows.fnEntryLineIsOneLineCard.stood.harness false
    over (fun _ h => by cases h) (by kernel_rfl) (fun _ h => by cases h) fnEntryLineIsOneLine_row_tie rfl ⟨rfl, rfl⟩ (by kernel_rfl) rfl
    (fun f fn hf hfn => by
      obtain rfl : f = 6 := Option.some.inj ((show Tryd.prog.funcNamed Rows.fnEntryLineIsOneLineRow.func = some 6 by kernel_rfl).symm.trans hf) |>.symm
      obtain rfl : fn = Tryd.f6 := (Option.some.inj (Tryd.func6.symm.trans hfn)).symm
      exact ⟨by kernel_rfl, fun j t ht => by
        rw [Tryd.params6] at ht
        have hm : t ∈ [22, 25] := by simpa using Array.mem_of_getElem? ht
        have hall : ([22, 25].all fun u => !Tryd.prog.wantsStandIn u) = true := by kernel_rfl
        exact (show Tryd.prog.wantsStandIn t = false by simpa using List.all_eq_true.1 hall t hm)⟩)
    (by kernel_rfl)
#print axioms proved
end Go.Proofs.Qxb6600084aDoor.fnEntryLineIsOneLine
