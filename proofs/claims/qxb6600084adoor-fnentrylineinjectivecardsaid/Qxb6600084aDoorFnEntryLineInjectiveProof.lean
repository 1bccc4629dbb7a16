/-
  A proof of the tied card of FnEntryLineInjective.
-/
import Derived.Test.Qxb6600084aDoorOpen
import Derived.Test.Qxb6600084aDoorWalksH
import Derived.Test.Qxb6600084aDoorTie
import Derived.Test.Qxb6600084aDoorCards
import Derived.SevenTiedAt
namespace Go.Proofs.Qxb6600084aDoor.fnEntryLineInjective
open Go.ChangeShapes Go.WideShapes Go.ChangeAt Go.RowKit

theorem walk (x y : Option Addr) (c d : Nat) (r1 r2 : List UInt8) (a0 a2 a3 a4 a5 a6 a7 a8 b0 b2 b3 b4 b5 b6 b7 b8 : ByteArray) (aq bq : Int) (w : World) (ha0 : -9223372036854775808 ≤ aq) (ha1 : aq ≤ 9223372036854775807) (hbq0 : -9223372036854775808 ≤ bq) (hbq1 : bq ≤ 9223372036854775807)
    (hrow1 : RowOf w x c r1) (hrow2 : RowOf w y d r2) (htab : Lib.TabIs Tryd.prog w powName .u64 Lib.pow10Tab) :
    Calls Tryd.prog 7 #[.slice x r1.length c, .agg #[.string a0, .int .i64 aq, .string a2, .string a3, .string a4, .string a5, .string a6, .string a7, .string a8], .slice y r2.length d, .agg #[.string b0, .int .i64 bq, .string b2, .string b3, .string b4, .string b5, .string b6, .string b7, .string b8]] w fun e w' => e = .returned (.bool true) ∧ Below w.heap.size w w' := by
  by_cases h : r1.length + a0.size + a2.size + a3.size + a4.size + a5.size + a6.size + a7.size + a8.size + r2.length + b0.size + b2.size + b3.size + b4.size + b5.size + b6.size + b7.size + b8.size ≤ 1048576
  · exact two_small x y c d r1 r2 a0 a2 a3 a4 a5 a6 a7 a8 b0 b2 b3 b4 b5 b6 b7 b8 aq bq w ha0 ha1 hbq0 hbq1 h hrow1 hrow2 htab
  · exact two_big x y r1.length r2.length c d a0 a2 a3 a4 a5 a6 a7 a8 b0 b2 b3 b4 b5 b6 b7 b8 aq bq w h

/-- The heap that the initialisers leave meets the row's list. -/
theorem door_met (os : Os) (args : Array Value) : laidMetH Tryd.prog Rows.fnEntryLineInjectiveRow.laid ((World.doorLaid Tryd.prog 24 os).forCall (fun _ _ => 0) ⟨#[], args, []⟩).memory :=
  laidMetH_of_parts3 (fuel := 8) (laidMet_of_run' 8 (by kernel_rfl) (by kernel_rfl)) (by kernel_rfl) (by kernel_rfl)

set_option maxRecDepth 100000 in
theorem lifted (os : Os) (started : os.Started) (H : Type) (enc : TypeId × Value → H) :
    ReturnsInHanded {} Tryd.checked os 7 .any (fun w args => (Rows.fnEntryLineInjectiveSpec.pre enc Tryd.prog Tryd.f7 [] false w args ∧ laidMetH Tryd.prog Rows.fnEntryLineInjectiveRow.laid w) ∧ sizedMet enc Tryd.prog Tryd.f7 (OpenSpec.ofChange Rows.fnEntryLineInjectiveSpec) false w args)
      (Rows.fnEntryLineInjectiveSpec.post enc Tryd.prog Tryd.f7 false true false false) := by
  refine returnsInHanded_of_change_and (C := Tryd.checked) (X := fun w _ => laidMetH Tryd.prog Rows.fnEntryLineInjectiveRow.laid w) (fun _ _ _ hh h => h.of_heap hh) own started (by kernel_rfl) Tryd.func7
    (ChangeSpec.witness_shaped (enc := enc) (C := Tryd.checked) (os := os) (X := fun w _ => laidMetH Tryd.prog Rows.fnEntryLineInjectiveRow.laid w) false (World.doorLaid Tryd.prog 24 os)
      #[.slice none 0 0, .agg #[.string ByteArray.empty, .int .i64 0, .string ByteArray.empty, .string ByteArray.empty, .string ByteArray.empty, .string ByteArray.empty, .string ByteArray.empty, .string ByteArray.empty, .string ByteArray.empty], .slice none 0 0, .agg #[.string ByteArray.empty, .int .i64 0, .string ByteArray.empty, .string ByteArray.empty, .string ByteArray.empty, .string ByteArray.empty, .string ByteArray.empty, .string ByteArray.empty, .string ByteArray.empty]] 8 rfl
      (World.shaped_of_RefB (by kernel_rfl) (by kernel_rfl)) (by kernel_rfl) (by kernel_rfl) (by kernel_rfl) (door_met os _)) ?_
  intro W base args ds gs before hval0 hW _ _ hL _
  have hval : ∀ (j : Nat) t v, Tryd.f7.params[j]? = some t → args[j]? = some v → Value.okWide Tryd.prog W .any base t v := hval0
  have hW' := hW
  obtain ⟨p, q, hA0, hV, rfl, hfz, hnd⟩ := hW
  have hA : DataW.TrodAll enc Tryd.prog W 0 (fun _ => true) true Tryd.f7.params.toList args.toList ds p := hA0
  rw [Tryd.params7] at hA hval
  obtain ⟨v0, v1, v2, v3, d0, d1, d2, d3, p0, p1, p2, p3, rfl, rfl, rfl, h0, h1, h2, h3⟩ := trodAll_four hA
  obtain ⟨rfl, rfl⟩ := trodVars_none hV
  have lt0 : ∀ x ∈ p0, x.block < W.heap.size := by obtain ⟨m, hm⟩ := h0; exact DataW.trod_lt m _ _ _ hm
  have lt1 : ∀ x ∈ p1, x.block < W.heap.size := by obtain ⟨m, hm⟩ := h1; exact DataW.trod_lt m _ _ _ hm
  have lt2 : ∀ x ∈ p2, x.block < W.heap.size := by obtain ⟨m, hm⟩ := h2; exact DataW.trod_lt m _ _ _ hm
  have lt3 : ∀ x ∈ p3, x.block < W.heap.size := by obtain ⟨m, hm⟩ := h3; exact DataW.trod_lt m _ _ _ hm
  obtain ⟨x, c, r1, rfl, hrow1⟩ := open_bytes (hval 0 22 v0 rfl rfl) h0
  obtain ⟨a0, a2, a3, a4, a5, a6, a7, a8, aq, rfl, ha0, ha1⟩ := open_seal (hval 1 25 v1 rfl rfl) h1
  obtain ⟨y, d, r2, rfl, hrow2⟩ := open_bytes (hval 2 22 v2 rfl rfl) h2
  obtain ⟨b0, b2, b3, b4, b5, b6, b7, b8, bq, rfl, hb0, hb1⟩ := open_seal (hval 3 25 v3 rfl rfl) h3
  clear hA0 hval0
  refine (walk x y c d r1 r2 a0 a2 a3 a4 a5 a6 a7 a8 b0 b2 b3 b4 b5 b6 b7 b8 aq bq W ha0 ha1 hb0 hb1 hrow1 hrow2 (table hL)).mono fun e W' ⟨he, bel⟩ => ?_
  subst he
  exact ⟨_, rfl, _, _, _, [], _, [], hW', trodAll_mk1 (shut_bool Tryd.underlying4 _), trodAll_mk4 (Below.trod laidOut (by kernel_rfl) (of_decide_eq_true (by kernel_rfl)) h0 bel lt0) (Below.trod laidOut (by kernel_rfl) (of_decide_eq_true (by kernel_rfl)) h1 bel lt1) (Below.trod laidOut (by kernel_rfl) (of_decide_eq_true (by kernel_rfl)) h2 bel lt2) (Below.trod laidOut (by kernel_rfl) (of_decide_eq_true (by kernel_rfl)) h3 bel lt3), rfl, bel.frame _, fun h => by cases h⟩

theorem over : Rows.FnEntryLineInjectiveSaid :=
  OpenClaim.holds_of_wide 7 Tryd.f7 rfl rfl rfl rfl rfl rfl rfl ⟨rfl, rfl, rfl, rfl, rfl⟩ rfl rfl rfl rfl rfl (by kernel_rfl) Tryd.func7 (by kernel_rfl)
    (of_decide_eq_true (by kernel_rfl)) (by unfold Func.isWrapper; first | (rw [if_pos (by decide +kernel)]; kernel_rfl) | (rw [if_neg (by decide +kernel)]; exact ⟨rfl, rfl⟩))
    (fun os started H enc _ => lifted os started H enc)

theorem proved : Rows.FnEntryLineInjectiveCardSaid :=
  Claim7.holds_tied_plain_at .later [] [.data, .data, .data] true Rows.fnEntryLineInjectiveCard.stood.harness false
    over (fun _ h => by cases h) (by kernel_rfl) (fun _ h => by cases h) fnEntryLineInjective_row_tie rfl ⟨rfl, rfl⟩ (by kernel_rfl) rfl
    (fun f fn hf hfn => by
      obtain rfl : f = 7 := Option.some.inj ((show Tryd.prog.funcNamed Rows.fnEntryLineInjectiveRow.func = some 7 by kernel_rfl).symm.trans hf) |>.symm
      obtain rfl : fn = Tryd.f7 := (Option.some.inj (Tryd.func7.symm.trans hfn)).symm
      exact ⟨by kernel_rfl, fun j t ht => by
        rw [Tryd.params7] at ht
        have hm : t ∈ [22, 25, 22, 25] := by simpa using Array.mem_of_getElem? ht
        have hall : ([22, 25, 22, 25].all fun u => !Tryd.prog.wantsStandIn u) = true := by kernel_rfl
        exact (show Tryd.prog.wantsStandIn t = false by simpa using List.all_eq_true.1 hall t hm)⟩)
    (by kernel_rfl)
#print axioms proved
end Go.Proofs.Qxb6600084aDoor.fnEntryLineInjective
