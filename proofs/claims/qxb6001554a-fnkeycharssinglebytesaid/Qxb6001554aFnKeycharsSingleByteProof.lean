/-
  A proof of 'Rows.FnKeycharsSingleByteSaid': the plain law, the callees' contracts, the walk; the frame is the guide's template at this function's number and types.
-/
import Derived.Test.Qxb6001554aRows
import Derived.WalkKit
import Derived.ProofKit
import Derived.OpenShut
import Derived.ShutString
import Derived.WalkLawsBesides
namespace Go.Proofs.Qxb6001554a.fnKeycharsSingleByte
open Go.ChangeShapes Go.WideShapes Go.ChangeAt Go.RowKit
open Go.ChangeMaps (open_string shut_string)
set_option linter.unusedVariables false      -- a walk need not use every 'w<i>' (that an integer argument fits its kind)

theorem own : ownKnob Try.prog.godebug = none := by kernel_rfl

theorem ret_bool {a b : Bool} (h : a = b) : Ending.returned (.bool a) = .returned (.bool b) := by rw [h]

def letB (n : Int) : Bool := decide ((65 ≤ n ∧ n ≤ 90) ∨ (97 ≤ n ∧ n ≤ 122))
def digB (n : Int) : Bool := decide (48 ≤ n ∧ n ≤ 57)
def okB (n : Int) : Bool := letB n || digB n || n == 45

theorem or32_all : ∀ m : Nat, m < 256 → letB (m : Int) = (decide (97 ≤ bits BinOp.or IntKind.u8 (m : Int) 32) && decide (bits BinOp.or IntKind.u8 (m : Int) 32 ≤ 122)) := by
  decide +kernel

theorem or32 (n : Int) (h0 : 0 ≤ n) (h1 : n ≤ 255) : letB n = (decide (97 ≤ bits BinOp.or IntKind.u8 n 32) && decide (bits BinOp.or IntKind.u8 n 32 ≤ 122)) := by
  obtain ⟨m, rfl⟩ := Int.eq_ofNat_of_zero_le h0
  exact or32_all m (by omega)

set_option maxHeartbeats 400000 in
theorem isLetter (n : Int) (h0 : 0 ≤ n) (h1 : n ≤ 255) (w : World) : Calls Try.prog 11 #[.int .u8 n] w fun e w' => e = .returned (.bool (letB n)) ∧ w' = w := by
  go_enter Try.func11, Try.ntmps11
  go_wp2
  · have h : 97 ≤ bits BinOp.or IntKind.u8 n 32 := by assumption
    go_ret
    exact ⟨ret_bool (by rw [or32 n h0 h1, decide_eq_true h]; simp), rfl⟩
  · have h : bits BinOp.or IntKind.u8 n 32 < 97 := by assumption
    go_ret
    exact ⟨ret_bool (by rw [or32 n h0 h1, decide_eq_false (by omega)]; simp), rfl⟩

set_option maxHeartbeats 400000 in
theorem isDigit (n : Int) (w : World) : Calls Try.prog 12 #[.int .u8 n] w fun e w' => e = .returned (.bool (digB n)) ∧ w' = w := by
  by_cases h1 : 48 ≤ n <;> by_cases h2 : n ≤ 57
  all_goals
    go_enter Try.func12, Try.ntmps12
    go_wp2
    go_ret
    exact ⟨ret_bool (by simp [digB, h1, h2]), rfl⟩

set_option maxHeartbeats 400000 in
theorem keycharByte (n : Int) (w : World) : Calls Try.prog 7 #[.int .u8 n] w fun e w' => e = .returned (.bool (okB n)) ∧ w' = w := by
  by_cases h0 : n = 45
  · subst h0
    go_enter Try.func7, Try.ntmps7
    go_wp2
    go_ret
    exact ⟨ret_bool (by decide), rfl⟩
  have h0' : (n == 45) = false := beq_eq_false_iff_ne.2 h0
  by_cases a1 : 65 ≤ n <;> by_cases a2 : n ≤ 90 <;> by_cases a3 : 97 ≤ n <;> by_cases a4 : n ≤ 122 <;> by_cases a5 : 48 ≤ n <;> by_cases a6 : n ≤ 57 <;> try (exfalso; omega)
  all_goals
    go_enter Try.func7, Try.ntmps7
    go_wp2
    go_ret
    exact ⟨ret_bool (by simp [okB, letB, digB, h0', a1, a2, a3, a4, a5, a6]), rfl⟩

/-- Every byte is a letter, a digit or '-', and there is one. -/
def kcB (s : ByteArray) : Bool := s.data.toList.all (fun c => okB c.toNat) && !s.data.toList.isEmpty

theorem kc_no {s : ByteArray} (k : Nat) (h : k < s.size) (e : okB (s[k].toNat : Int) = false) : kcB s = false := by
  have : s.data.toList.all (fun c => okB c.toNat) = false := by
    rw [List.all_eq_false]
    exact ⟨s[k], Array.mem_toList_iff.2 (Array.getElem_mem h), by rw [e]; decide⟩
  unfold kcB
  rw [this]
  rfl

theorem kc_yes {s : ByteArray} (H : Hid (∀ j (h : j < s.size), okB (s[j].toNat : Int) = true)) : kcB s = !s.data.toList.isEmpty := by
  have : s.data.toList.all (fun c => okB c.toNat) = true := by
    rw [List.all_eq_true]
    intro c hc
    obtain ⟨j, hj, rfl⟩ := List.getElem_of_mem hc
    exact H.out j (by simpa using hj)
  unfold kcB
  rw [this]
  rfl

theorem next {s : ByteArray} (k : Nat) (h : k < s.size) (H : Hid (∀ j (_ : j < k) (h : j < s.size), okB (s[j].toNat : Int) = true)) (e : okB (s[k].toNat : Int) = true) : ∀ j (_ : j < k + 1) (h : j < s.size), okB (s[j].toNat : Int) = true := by
  intro j hj hs
  by_cases hjk : j = k
  · subst hjk; exact e
  · exact H.out j (by omega) hs

set_option maxHeartbeats 800000 in
theorem isKeychars (s : ByteArray) (hs : s.size ≤ 1000) (w : World) : Calls Try.prog 10 #[.string s] w fun e w' => e = .returned (.bool (kcB s)) ∧ w' = w := by
  go_enter Try.func10, Try.ntmps10
  go_wp2
  go_loop [7] (fun i => ∃ k : Nat, k ≤ s.size ∧ i = .int .i64 k ∧ ∀ j (_ : j < k) (h : j < s.size), okB (s[j].toNat : Int) = true) (fun i => s.size - (intOf i).toNat)
  case atStart => exact ⟨0, Nat.zero_le _, rfl, fun j hj => by omega⟩
  case round =>
    obtain ⟨k, hk, rfl, hall⟩ := hrel
    have H : Hid (∀ j (_ : j < k) (h : j < s.size), okB (s[j].toNat : Int) = true) := hall
    clear hall
    by_cases hlt : k < s.size
    · have hc : s[k].toNat < 256 := UInt8.toNat_lt s[k]
      cases hL : letB s[k].toNat <;> cases hD : digB s[k].toNat <;> cases hH : ((s[k].toNat : Int) == 45)
      all_goals
        have hO : Hid (okB (s[k].toNat : Int) = (letB (s[k].toNat : Int) || digB (s[k].toNat : Int) || ((s[k].toNat : Int) == 45))) := rfl
        have hH' : ((s[k].toNat : Int) != 45) = !((s[k].toNat : Int) == 45) := rfl
        rw [hH] at hH'
        rw [hL, hD, hH] at hO
        go_wp2_with (first | (go_at_call 11; refine (isLetter _ (by omega) (by omega) _).mono ?_; rintro e w' ⟨rfl, rfl⟩) | (go_at_call 12; refine (isDigit _ _).mono ?_; rintro e w' ⟨rfl, rfl⟩))
      · go_ret
        exact ⟨ret_bool (kc_no k hlt hO.out).symm, rfl⟩
      all_goals
        go_round
        case rel => exact ⟨k + 1, by omega, by go_num, next k hlt H hO.out⟩
        case measure => simp [intOf]; omega
    · go_wp2
      go_ret
      exact ⟨ret_bool (by rw [kc_yes (fun j h => H.out j (by omega) h), ByteArray.toList_eq]), rfl⟩

theorem kc_empty : kcB ⟨#[]⟩ = false := rfl
theorem kc_one (c : UInt8) : kcB ⟨#[c]⟩ = okB c.toNat := by simp [kcB]

theorem isKeychars6 (s : ByteArray) (hs : s.size ≤ 1000) (w : World) : Calls Try.prog 6 #[.string s] w fun e w' => e = .returned (.bool (kcB s)) ∧ w' = w := by
  go_enter Try.func6, Try.ntmps6
  go_wp2_with (go_at_call 10; refine (isKeychars _ hs _).mono ?_; rintro e w' ⟨rfl, rfl⟩)
  go_ret
  exact ⟨rfl, rfl⟩

set_option maxHeartbeats 400000 in
theorem walkU (c : UInt8) (w : World) : Calls Try.prog 3 #[.int .u8 c.toNat] w fun e w' => e = .returned (.bool true) ∧ Grown w w' := by
  have hk := run_convert_bytes_back (P := Try.prog) (w.alloc (Obj.cells #[Value.int IntKind.u8 (c.toNat : Int)] 5)) 22 9 5 ⟨w.heap.size, 0, none⟩ 1 [c] Try.underlying22 Try.underlying5 Try.underlying9 (by
    intro j hj
    match j, hj with
    | 0, _ => simp [Addr.add])
  rw [show [c].length = 1 from rfl] at hk
  go_enter Try.func3, Try.ntmps3
  have hke := kc_empty
  go_wp2_with fail
  refine (isKeychars6 ⟨#[]⟩ (by decide) _).mono ?_
  rintro e w' ⟨rfl, rfl⟩
  go_wp2_with fail
  refine (isKeychars6 ⟨#[c]⟩ (by simp [ByteArray.size]) _).mono ?_
  rintro e w' ⟨rfl, rfl⟩
  go_wp2_with (go_at_call 7; refine (keycharByte _ _).mono ?_; rintro e w' ⟨rfl, rfl⟩)
  go_ret
  exact ⟨ret_bool (by rw [kc_one]; simp), (Grown.refl _).alloc _ _⟩

/-! ### STEP 1: THE WALK: the Go text returns true. 'Grown w w'': the world has at most new blocks (Derived/RowKit3.lean). Part the cases AHEAD of 'go_enter' where a test parts the walk; take each callee by a contract of your own. -/
theorem walk (a0 : Int) (w0 : (Lit.int .u8 a0).wf = true) (w : World) :
    Calls Try.prog 3 #[.int .u8 a0] w fun e w' => e = .returned (.bool true) ∧ Grown w w' := by
  have hb := bounds_u8 w0
  obtain ⟨m, rfl⟩ := Int.eq_ofNat_of_zero_le hb.1
  have e : ((UInt8.ofNat m).toNat : Int) = (m : Int) := by
    rw [UInt8.toNat_ofNat', Nat.mod_eq_of_lt (by omega)]
  rw [← e]
  exact walkU _ w

/-! ### THE ROW's STEP: WRITTEN OUT: LEAVE IT -/
set_option maxRecDepth 100000 in
theorem lifted (os : Os) (started : os.Started) (H : Type) (enc : TypeId × Value → H) :
    ReturnsInHanded {} Try.checked os 3 .any (Rows.fnKeycharsSingleByteSpec.pre6 enc Try.prog Try.f3 Rows.fnKeycharsSingleByteRow.domain false) (Rows.fnKeycharsSingleByteSpec.post enc Try.prog Try.f3 false true false false) := by
  refine returnsInHanded_of_change (C := Try.checked) own started (by kernel_rfl) Try.func3
    (ChangeSpec.witness6 (enc := enc) (C := Try.checked) false ⟨#[], #[.int .u8 0], []⟩ 8 (by kernel_rfl) (by kernel_rfl) (by kernel_rfl) (by kernel_rfl)) ?_
  intro W base args ds gs before hval0 hW hcnd _
  have hval : ∀ (j : Nat) t v, Try.f3.params[j]? = some t → args[j]? = some v → Value.okWide Try.prog W .any base t v := hval0
  have hW' := hW
  obtain ⟨p, q, hA0, hV, rfl, hfz, hnd⟩ := hW
  have hA : DataW.TrodAll enc Try.prog W 0 (fun _ => true) true Try.f3.params.toList args.toList ds p := hA0
  rw [Try.params3] at hA hval
  obtain ⟨v0, vs0, d0, ds0, p0, q0, hargs, rfl, rfl, h0, r0⟩ := trodAll_cons hA
  obtain ⟨rfl, rfl, rfl⟩ := trodAll_nil r0
  obtain rfl : args = #[v0] := by cases args; simp_all
  obtain ⟨rfl, rfl⟩ := trodVars_none hV
  obtain ⟨a0, rfl, rfl, rfl, w0⟩ := open_int Try.underlying5 (hval 0 5 v0 rfl rfl) h0
  clear hA0 hval0
  simp only [List.append_nil] at hW'
  refine (walk a0 w0 W).mono fun e W' ⟨he, hg⟩ => ?_
  subst he
  exact ⟨_, rfl, post_of_same (pa := []) (pv := []) hW' (fun _ _ _ => (trodAll_cons_mk (shut_bool Try.underlying4 _) trodAll_mk0)) (fun sp _ => (trodAll_cons_mk (shut_int Try.underlying5 w0) trodAll_mk0)) (fun _ _ => rfl) rfl
    (hg.frame _) hg.2.1 (ok_one (by kernel_rfl) rfl (okWide_bool_mk Try.underlying4 _))⟩

theorem over : Rows.fnKeycharsSingleByteRow.holds Try.pinned (OpenSpec.ofChange Rows.fnKeycharsSingleByteSpec) :=
  OpenClaim.holds_of_wide 3 Try.f3 rfl rfl rfl rfl rfl rfl rfl ⟨rfl, rfl, rfl, rfl, rfl⟩ rfl rfl rfl rfl rfl (by kernel_rfl) Try.func3 (by kernel_rfl)
    (of_decide_eq_true (by kernel_rfl)) (by unfold Func.isWrapper; first | (rw [if_pos (by decide +kernel)]; kernel_rfl) | (rw [if_neg (by decide +kernel)]; exact ⟨rfl, rfl⟩))
    (fun os started H enc _ => lifted os started H enc)

/-- ████ THE STATEMENT ████ -/
theorem proved : Rows.FnKeycharsSingleByteSaid :=
  over
#print axioms proved
end Go.Proofs.Qxb6001554a.fnKeycharsSingleByte
