/-
  A proof of 'Rows.FnNameCharMatchesAlphabetSaid': the plain law, the callees' contracts, the walk; the frame is the guide's template at this function's number and types.
-/
import Derived.Test.Qxb6001333aRows
import Derived.WalkKit
import Derived.ProofKit
import Derived.OpenShut
import Derived.ShutString
namespace Go.Proofs.Qxb6001333a.fnNameCharMatchesAlphabet
open Go.ChangeShapes Go.WideShapes Go.ChangeAt Go.RowKit
open Go.ChangeMaps (open_string shut_string)
set_option linter.unusedVariables false      -- a walk need not use every 'w<i>' (that an integer argument fits its kind)

theorem own : ownKnob Try.prog.godebug = none := by kernel_rfl

/-! ### THE PLAIN LAW: the 64 characters, by ranges and one by one -/
/-- r is an ASCII letter, a digit, '_' or '-'. -/
def okB (r : Int) : Bool := decide ((65 ≤ r ∧ r ≤ 90) ∨ (97 ≤ r ∧ r ≤ 122) ∨ (48 ≤ r ∧ r ≤ 57) ∨ r = 95 ∨ r = 45)

theorem ret_bool {a b : Bool} (h : a = b) : Ending.returned (.bool a) = .returned (.bool b) := by rw [h]

theorem ok_mk {r : Int} (h : (65 ≤ r ∧ r ≤ 90) ∨ (97 ≤ r ∧ r ≤ 122) ∨ (48 ≤ r ∧ r ≤ 57) ∨ r = 95 ∨ r = 45) : okB r = true := decide_eq_true h
theorem tail_mk {r : Int} (h : ¬ ((65 ≤ r ∧ r ≤ 90) ∨ (97 ≤ r ∧ r ≤ 122) ∨ (48 ≤ r ∧ r ≤ 57))) : (r == 95 || r == 45) = okB r := by
  rw [Bool.eq_iff_iff]
  simp only [okB, Bool.or_eq_true, beq_iff_eq, decide_eq_true_eq]
  omega

/-- The law's own table. -/
def abc : List Int := [65, 66, 67, 68, 69, 70, 71, 72, 73, 74, 75, 76, 77, 78, 79, 80, 81, 82, 83, 84, 85, 86, 87, 88, 89, 90, 97, 98, 99, 100, 101, 102, 103, 104, 105, 106, 107, 108, 109, 110, 111, 112, 113, 114, 115, 116, 117, 118, 119, 120, 121, 122, 48, 49, 50, 51, 52, 53, 54, 55, 56, 57, 95, 45]

theorem at_k : ∀ k : Nat, ∀ h : k < 64, wrap32 (((⟨#[65, 66, 67, 68, 69, 70, 71, 72, 73, 74, 75, 76, 77, 78, 79, 80, 81, 82, 83, 84, 85, 86, 87, 88, 89, 90, 97, 98, 99, 100, 101, 102, 103, 104, 105, 106, 107, 108, 109, 110, 111, 112, 113, 114, 115, 116, 117, 118, 119, 120, 121, 122, 48, 49, 50, 51, 52, 53, 54, 55, 56, 57, 95, 45]⟩ : ByteArray)[k]'h).toNat : Int) = abc.getD k 0 := by
  decide +kernel

theorem abc_ok : ∀ k : Nat, k < 64 → okB (abc.getD k 0) = true := by
  decide +kernel

theorem abc_all : ∀ n : Nat, n < 123 → okB (n : Int) = true → ∃ k, k < 64 ∧ abc.getD k 0 = (n : Int) := by
  decide +kernel

theorem hit {r : Int} (k : Nat) (h : k < 64) (e : (wrap32 (((⟨#[65, 66, 67, 68, 69, 70, 71, 72, 73, 74, 75, 76, 77, 78, 79, 80, 81, 82, 83, 84, 85, 86, 87, 88, 89, 90, 97, 98, 99, 100, 101, 102, 103, 104, 105, 106, 107, 108, 109, 110, 111, 112, 113, 114, 115, 116, 117, 118, 119, 120, 121, 122, 48, 49, 50, 51, 52, 53, 54, 55, 56, 57, 95, 45]⟩ : ByteArray)[k]'h).toNat : Int) == r) = true) : okB r = true := by
  rw [at_k k h] at e
  have e := beq_iff_eq.1 e
  subst e
  exact abc_ok k h

theorem miss {r : Int} (k : Nat) (h : k < 64) (H : Hid (∀ j, j < k → abc.getD j 0 ≠ r)) (e : (wrap32 (((⟨#[65, 66, 67, 68, 69, 70, 71, 72, 73, 74, 75, 76, 77, 78, 79, 80, 81, 82, 83, 84, 85, 86, 87, 88, 89, 90, 97, 98, 99, 100, 101, 102, 103, 104, 105, 106, 107, 108, 109, 110, 111, 112, 113, 114, 115, 116, 117, 118, 119, 120, 121, 122, 48, 49, 50, 51, 52, 53, 54, 55, 56, 57, 95, 45]⟩ : ByteArray)[k]'h).toNat : Int) == r) = false) : ∀ j, j < k + 1 → abc.getD j 0 ≠ r := by
  rw [at_k k h] at e
  have e := beq_eq_false_iff_ne.1 e
  intro j hj
  by_cases hjk : j = k
  · subst hjk; exact e
  · exact H.out j (by omega)

theorem none_hit {r : Int} (k : Nat) (h : ¬ k < 64) (H : Hid (∀ j, j < k → abc.getD j 0 ≠ r)) : okB r = false := by
  cases hr : okB r with
  | false => rfl
  | true =>
    exfalso
    have hb : 0 ≤ r ∧ r < 123 := by
      have := of_decide_eq_true hr
      omega
    obtain ⟨n, rfl⟩ := Int.eq_ofNat_of_zero_le hb.1
    obtain ⟨j, hj, e⟩ := abc_all n (by omega) hr
    exact H.out j (by omega) e

/-! ### THE CALLEES -/
set_option maxHeartbeats 400000 in
theorem nameChar (r : Int) (w : World) : Calls Try.prog 8 #[.int .i32 r] w fun e w' => e = .returned (.bool (okB r)) ∧ w' = w := by
  by_cases a1 : 65 ≤ r <;> by_cases a2 : r ≤ 90 <;> by_cases a3 : 97 ≤ r <;> by_cases a4 : r ≤ 122 <;> by_cases a5 : 48 ≤ r <;> by_cases a6 : r ≤ 57 <;> try (exfalso; omega)
  all_goals
    go_enter Try.func8, Try.ntmps8
    go_wp2
  all_goals
    go_ret
    first
      | exact ⟨ret_bool (ok_mk (by omega)).symm, rfl⟩
      | exact ⟨ret_bool (tail_mk (by omega)), rfl⟩

theorem zzNameChar (r : Int) (w : World) : Calls Try.prog 6 #[.int .i32 r] w fun e w' => e = .returned (.bool (okB r)) ∧ w' = w := by
  go_enter Try.func6, Try.ntmps6
  go_wp2_with (go_at_call 8; refine (nameChar _ _).mono ?_; rintro e w' ⟨rfl, rfl⟩)
  go_ret
  exact ⟨rfl, rfl⟩

set_option maxHeartbeats 400000 in
theorem inAlphabet (r : Int) (w : World) : Calls Try.prog 7 #[.int .i32 r] w fun e w' => e = .returned (.bool (okB r)) ∧ w' = w := by
  go_enter Try.func7, Try.ntmps7
  go_wp2
  go_loop [3] (fun i => ∃ k : Nat, k ≤ 64 ∧ i = .int .i64 k ∧ ∀ j, j < k → abc.getD j 0 ≠ r) (fun i => 64 - (intOf i).toNat)
  case atStart => exact ⟨0, Nat.zero_le _, rfl, fun j hj => by omega⟩
  case round =>
    obtain ⟨k, hk, rfl, hall⟩ := hrel
    have H : Hid (∀ j, j < k → abc.getD j 0 ≠ r) := hall
    clear hall
    by_cases hlt : k < 64
    · go_wp2
      · go_ret
        exact ⟨ret_bool (hit k hlt (by assumption)).symm, rfl⟩
      · go_round
        case rel => exact ⟨k + 1, by omega, by go_num, miss k hlt H (by assumption)⟩
        case measure => simp [intOf]; omega
    · go_wp2
      go_ret
      exact ⟨ret_bool (none_hit k hlt H).symm, rfl⟩

/-! ### STEP 1: THE WALK: the Go text returns true. 'Grown w w'': the world has at most new blocks (Derived/RowKit3.lean). Part the cases AHEAD of 'go_enter' where a test parts the walk; take each callee by a contract of your own. -/
theorem walk (a0 : Int) (w0 : (Lit.int .i32 a0).wf = true) (w : World) :
    Calls Try.prog 3 #[.int .i32 a0] w fun e w' => e = .returned (.bool true) ∧ Grown w w' := by
  have e : (okB a0 == okB a0) = true := by simp
  go_enter Try.func3, Try.ntmps3
  go_wp2_with (first | (go_at_call 6; refine (zzNameChar _ _).mono ?_; rintro e w' ⟨rfl, rfl⟩) | (go_at_call 7; refine (inAlphabet _ _).mono ?_; rintro e w' ⟨rfl, rfl⟩))
  go_ret
  exact ⟨ret_bool (by simp), Grown.refl _⟩

/-! ### THE ROW's STEP: WRITTEN OUT: LEAVE IT -/
set_option maxRecDepth 100000 in
theorem lifted (os : Os) (started : os.Started) (H : Type) (enc : TypeId × Value → H) :
    ReturnsInHanded {} Try.checked os 3 .any (Rows.fnNameCharMatchesAlphabetSpec.pre6 enc Try.prog Try.f3 Rows.fnNameCharMatchesAlphabetRow.domain false) (Rows.fnNameCharMatchesAlphabetSpec.post enc Try.prog Try.f3 false true false false) := by
  refine returnsInHanded_of_change (C := Try.checked) own started (by kernel_rfl) Try.func3
    (ChangeSpec.witness6 (enc := enc) (C := Try.checked) false ⟨#[], #[.int .i32 0], []⟩ 8 (by kernel_rfl) (by kernel_rfl) (by kernel_rfl) (by kernel_rfl)) ?_
  intro W base args ds gs before hval0 hW hcnd _
  have hval : ∀ (j : Nat) t v, Try.f3.params[j]? = some t → args[j]? = some v → Value.okWide Try.prog W .any base t v := hval0
  have hW' := hW
  obtain ⟨p, q, hA0, hV, rfl, hfz, hnd⟩ := hW
  have hA : DataW.TrodAll enc Try.prog W 0 (fun _ => true) true Try.f3.params.toList args.toList ds p := hA0
  rw [Try.params3] at hA hval
  obtain ⟨v0, vs0, d0, ds0, p0, q0, hargs, rfl, rfl, h0, r0⟩ := trodAll_cons hA
  obtain ⟨rfl, rfl, rfl⟩ := trodAll_nil r0
  obtain rfl : args = #[v0] := by cases args; simp_all
  obtain ⟨rfl, rfl⟩ := trodVars_none hV
  obtain ⟨a0, rfl, rfl, rfl, w0⟩ := open_int Try.underlying21 (hval 0 21 v0 rfl rfl) h0
  clear hA0 hval0
  simp only [List.append_nil] at hW'
  refine (walk a0 w0 W).mono fun e W' ⟨he, hg⟩ => ?_
  subst he
  exact ⟨_, rfl, post_of_same (pa := []) (pv := []) hW' (fun _ _ _ => (trodAll_cons_mk (shut_bool Try.underlying4 _) trodAll_mk0)) (fun sp _ => (trodAll_cons_mk (shut_int Try.underlying21 w0) trodAll_mk0)) (fun _ _ => rfl) rfl
    (hg.frame _) hg.2.1 (ok_one (by kernel_rfl) rfl (okWide_bool_mk Try.underlying4 _))⟩

theorem over : Rows.fnNameCharMatchesAlphabetRow.holds Try.pinned (OpenSpec.ofChange Rows.fnNameCharMatchesAlphabetSpec) :=
  OpenClaim.holds_of_wide 3 Try.f3 rfl rfl rfl rfl rfl rfl rfl ⟨rfl, rfl, rfl, rfl, rfl⟩ rfl rfl rfl rfl rfl (by kernel_rfl) Try.func3 (by kernel_rfl)
    (of_decide_eq_true (by kernel_rfl)) (by unfold Func.isWrapper; first | (rw [if_pos (by decide +kernel)]; kernel_rfl) | (rw [if_neg (by decide +kernel)]; exact ⟨rfl, rfl⟩))
    (fun os started H enc _ => lifted os started H enc)

/-- ████ THE STATEMENT ████ -/
theorem proved : Rows.FnNameCharMatchesAlphabetSaid :=
  over
#print axioms proved
end Go.Proofs.Qxb6001333a.fnNameCharMatchesAlphabet
