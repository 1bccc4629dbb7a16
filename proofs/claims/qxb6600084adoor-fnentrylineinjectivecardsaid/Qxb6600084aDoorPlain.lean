/-
  The plain law of the entry line: no Go in it. What seal.EntryLine writes, as lists of bytes; that it holds one newline more than the record; that it can be read back.
-/
import Derived.Lib.ItoaNum
namespace Go.Proofs.Qxb6600084aDoor.Plain

/-- The nine members of a seal. -/
structure Z where
  stream : ByteArray
  seq : Int
  content : ByteArray
  prev : ByteArray
  chain : ByteArray
  key : ByteArray
  nonce : ByteArray
  signedAt : ByteArray
  signature : ByteArray

def hexDigit (n : UInt8) : UInt8 := if n < 10 then 48 + n else 87 + n

def esc (c : UInt8) : List UInt8 :=
  if c = 34 ∨ c = 92 then [92, c]
  else if 32 ≤ c then [c]
  else if c = 8 then [92, 98]
  else if c = 12 then [92, 102]
  else if c = 10 then [92, 110]
  else if c = 13 then [92, 114]
  else if c = 9 then [92, 116]
  else [92, 117, 48, 48, hexDigit (c >>> 4), hexDigit (c &&& 15)]

def escs (l : List UInt8) : List UInt8 := l.flatMap esc

def quoted (l : List UInt8) : List UInt8 := 34 :: (escs l ++ [34])

def bs (s : ByteArray) : List UInt8 := s.data.toList

def kAlg : List UInt8 := [123, 34, 97, 108, 103, 34, 58]
def kEd : List UInt8 := [69, 100, 50, 53, 53, 49, 57]
def kChain : List UInt8 := [44, 34, 99, 104, 97, 105, 110, 95, 104, 97, 115, 104, 34, 58]
def kContent : List UInt8 := [44, 34, 99, 111, 110, 116, 101, 110, 116, 95, 104, 97, 115, 104, 34, 58]
def kKey : List UInt8 := [44, 34, 107, 101, 121, 95, 105, 100, 34, 58]
def kNonce : List UInt8 := [44, 34, 110, 111, 110, 99, 101, 34, 58]
def kPrev : List UInt8 := [44, 34, 112, 114, 101, 118, 95, 99, 104, 97, 105, 110, 95, 104, 97, 115, 104, 34, 58]
def kSeq : List UInt8 := [44, 34, 115, 101, 113, 34, 58]
def kSig : List UInt8 := [44, 34, 115, 105, 103, 110, 97, 116, 117, 114, 101, 34, 58]
def kSat : List UInt8 := [44, 34, 115, 105, 103, 110, 101, 100, 95, 97, 116, 34, 58]
def kStream : List UInt8 := [44, 34, 115, 116, 114, 101, 97, 109, 34, 58]
def kV : List UInt8 := [44, 34, 118, 34, 58]
def kStart : List UInt8 := [123, 34, 114, 101, 99, 111, 114, 100, 34, 58]
def kSeal : List UInt8 := [44, 34, 115, 101, 97, 108, 34, 58]
def kEnd : List UInt8 := [125, 10]

/-- What appendForm writes, signed. -/
def form (z : Z) : List UInt8 :=
  kAlg ++ (quoted kEd ++ (kChain ++ (quoted (bs z.chain) ++ (kContent ++ (quoted (bs z.content) ++ (kKey ++ (quoted (bs z.key) ++ (kNonce ++ (quoted (bs z.nonce) ++
  (kPrev ++ (quoted (bs z.prev) ++ (kSeq ++ (Lib.itoa z.seq ++ (kSig ++ (quoted (bs z.signature) ++ (kSat ++ (quoted (bs z.signedAt) ++ (kStream ++ (quoted (bs z.stream) ++
  (kV ++ (Lib.itoa 1 ++ [125])))))))))))))))))))))

/-- What EntryLine writes. -/
def entry (r : List UInt8) (z : Z) : List UInt8 := kStart ++ (r ++ (kSeal ++ (form z ++ kEnd)))

/-! ### a fact of every byte -/
theorem u8_all {p : UInt8 → Prop} (h : ∀ n : Nat, n < 256 → p (UInt8.ofNat n)) (c : UInt8) : p c := by
  have := h c.toNat (UInt8.toNat_lt c)
  simpa using this

theorem esc_no10 (c : UInt8) : (10 : UInt8) ∉ esc c := by
  revert c
  exact u8_all (by decide +kernel)

theorem esc_le (c : UInt8) : (esc c).length ≤ 6 := by
  revert c
  exact u8_all (by decide +kernel)

theorem escs_le (l : List UInt8) : (escs l).length ≤ 6 * l.length := by
  induction l with
  | nil => simp [escs]
  | cons c l ih =>
    have := esc_le c
    simp only [escs, List.flatMap_cons, List.length_append, List.length_cons] at *
    omega

theorem escs_no10 (l : List UInt8) : (10 : UInt8) ∉ escs l := by
  simp only [escs, List.mem_flatMap, not_exists, not_and]
  intro c _
  exact esc_no10 c

theorem quoted_no10 (l : List UInt8) : (quoted l).count 10 = 0 := by
  rw [List.count_eq_zero]
  simp [quoted, escs_no10]

/-! ### the numeral -/
theorem decDigits_mem (u : Nat) : ∀ c ∈ Lib.decDigits u, 48 ≤ c.toNat ∧ c.toNat ≤ 57 := by
  induction u using Nat.strongRecOn with
  | _ u ih =>
    rw [Lib.decDigits]
    by_cases h : u < 10
    · rw [dif_pos h]
      intro c hc
      simp only [List.mem_singleton] at hc
      subst hc
      rw [UInt8.toNat_ofNat', Nat.mod_eq_of_lt (by omega)]
      omega
    · rw [dif_neg h]
      intro c hc
      rcases List.mem_append.1 hc with hc | hc
      · exact ih (u / 10) (by omega) c hc
      · simp only [List.mem_singleton] at hc
        subst hc
        rw [UInt8.toNat_ofNat', Nat.mod_eq_of_lt (by omega)]
        omega

def val (l : List UInt8) : Nat := l.foldl (fun a c => 10 * a + (c.toNat - 48)) 0

theorem val_decDigits (u : Nat) : val (Lib.decDigits u) = u := by
  induction u using Nat.strongRecOn with
  | _ u ih =>
    rw [Lib.decDigits]
    by_cases h : u < 10
    · rw [dif_pos h]
      simp only [val, List.foldl_cons, List.foldl_nil, UInt8.toNat_ofNat']
      omega
    · rw [dif_neg h]
      have := ih (u / 10) (by omega)
      simp only [val, List.foldl_append, List.foldl_cons, List.foldl_nil, UInt8.toNat_ofNat'] at *
      rw [this]
      omega

theorem decDigits_inj {u v : Nat} (h : Lib.decDigits u = Lib.decDigits v) : u = v := by
  rw [← val_decDigits u, h, val_decDigits]

theorem decDigits_ne (u : Nat) (l : List UInt8) : Lib.decDigits u ≠ 45 :: l := by
  intro h
  have := decDigits_mem u 45 (by rw [h]; simp)
  exact absurd this.1 (by decide)

theorem itoa_inj {i j : Int} (h : Lib.itoa i = Lib.itoa j) : i = j := by
  unfold Lib.itoa at h
  by_cases hi : i < 0 <;> by_cases hj : j < 0
  · rw [if_pos hi, if_pos hj] at h
    have := decDigits_inj (List.cons.inj h).2
    omega
  · rw [if_pos hi, if_neg hj] at h
    exact absurd h.symm (decDigits_ne _ _)
  · rw [if_neg hi, if_pos hj] at h
    exact absurd h (decDigits_ne _ _)
  · rw [if_neg hi, if_neg hj] at h
    have := decDigits_inj h
    omega

theorem itoa_mem (i : Int) : ∀ c ∈ Lib.itoa i, c.toNat = 45 ∨ (48 ≤ c.toNat ∧ c.toNat ≤ 57) := by
  unfold Lib.itoa
  intro c hc
  by_cases hi : i < 0
  · rw [if_pos hi] at hc
    rcases List.mem_cons.1 hc with rfl | hc
    · exact .inl rfl
    · exact .inr (decDigits_mem _ c hc)
  · rw [if_neg hi] at hc
    exact .inr (decDigits_mem _ c hc)

theorem itoa_no (i : Int) (b : UInt8) (hb : b.toNat ≠ 45 ∧ (b.toNat < 48 ∨ 57 < b.toNat)) : b ∉ Lib.itoa i := by
  intro h
  have := itoa_mem i b h
  omega

/-! ### one newline more than the record -/
theorem form_no10 (z : Z) : (form z).count 10 = 0 := by
  have hi : ∀ i, (Lib.itoa i).count 10 = 0 := fun i => List.count_eq_zero.2 (itoa_no i 10 (by decide))
  unfold form
  simp only [List.count_append, quoted_no10, hi]
  decide

theorem entry_count (r : List UInt8) (z : Z) : (entry r z).count 10 = r.count 10 + 1 := by
  unfold entry
  simp only [List.count_append, form_no10]
  have h1 : kStart.count 10 = 0 := by decide
  have h2 : kSeal.count 10 = 0 := by decide
  have h3 : kEnd.count 10 = 1 := by decide
  omega

/-! ### reading back -/
def unhex (c : UInt8) : UInt8 := if c < 58 then c - 48 else c - 87

/-- One escaped byte, read. -/
def dec : List UInt8 → Option (UInt8 × List UInt8)
  | [] => none
  | c :: rest => if c ≠ 92 then some (c, rest) else match rest with
    | 98 :: r => some (8, r)
    | 102 :: r => some (12, r)
    | 110 :: r => some (10, r)
    | 114 :: r => some (13, r)
    | 116 :: r => some (9, r)
    | 117 :: _ :: _ :: h :: l :: r => some (unhex h * 16 + unhex l, r)
    | d :: r => some (d, r)
    | [] => none

theorem hex_back (c : UInt8) : unhex (hexDigit (c >>> 4)) * 16 + unhex (hexDigit (c &&& 15)) = c := by
  revert c
  exact u8_all (by decide +kernel)

theorem dec_esc (c : UInt8) (x : List UInt8) : dec (esc c ++ x) = some (c, x) := by
  unfold esc
  by_cases h1 : c = 34 ∨ c = 92
  · rw [if_pos h1]
    rcases h1 with rfl | rfl <;> rfl
  rw [if_neg h1]
  by_cases h2 : 32 ≤ c
  · rw [if_pos h2]
    have : c ≠ 92 := fun h => h1 (.inr h)
    simp [dec, this]
  rw [if_neg h2]
  by_cases h3 : c = 8
  · rw [if_pos h3]; subst h3; rfl
  rw [if_neg h3]
  by_cases h4 : c = 12
  · rw [if_pos h4]; subst h4; rfl
  rw [if_neg h4]
  by_cases h5 : c = 10
  · rw [if_pos h5]; subst h5; rfl
  rw [if_neg h5]
  by_cases h6 : c = 13
  · rw [if_pos h6]; subst h6; rfl
  rw [if_neg h6]
  by_cases h7 : c = 9
  · rw [if_pos h7]; subst h7; rfl
  rw [if_neg h7]
  show some (unhex (hexDigit (c >>> 4)) * 16 + unhex (hexDigit (c &&& 15)), x) = _
  rw [hex_back]

theorem esc_inj {a b : UInt8} {x y : List UInt8} (h : esc a ++ x = esc b ++ y) : a = b ∧ x = y := by
  have h1 := dec_esc a x
  rw [h, dec_esc] at h1
  simp only [Option.some.injEq, Prod.mk.injEq] at h1
  exact ⟨h1.1.symm, h1.2.symm⟩

theorem esc_head (c : UInt8) (x y : List UInt8) : esc c ++ x ≠ 34 :: y := by
  have : (esc c).head? ≠ some 34 ∧ esc c ≠ [] := by
    revert c
    exact u8_all (by decide +kernel)
  intro h
  cases hc : esc c with
  | nil => exact this.2 hc
  | cons d l =>
    rw [hc] at h this
    simp only [List.cons_append, List.cons.injEq] at h
    exact this.1 (by rw [h.1]; rfl)

theorem escs_inj : ∀ (s t : List UInt8) {x y : List UInt8}, escs s ++ 34 :: x = escs t ++ 34 :: y → s = t ∧ x = y
  | [], [], x, y, h => ⟨rfl, by simpa [escs] using h⟩
  | [], c :: t, x, y, h => by
    simp only [escs, List.flatMap_nil, List.nil_append, List.flatMap_cons, List.append_assoc] at h
    exact absurd h.symm (esc_head c _ _)
  | c :: s, [], x, y, h => by
    simp only [escs, List.flatMap_nil, List.nil_append, List.flatMap_cons, List.append_assoc] at h
    exact absurd h (esc_head c _ _)
  | c :: s, d :: t, x, y, h => by
    simp only [escs, List.flatMap_cons, List.append_assoc] at h
    obtain ⟨h1, h2⟩ := esc_inj h
    obtain ⟨h3, h4⟩ := escs_inj s t h2
    exact ⟨by rw [h1, h3], h4⟩

theorem quoted_inj {s t x y : List UInt8} (h : quoted s ++ x = quoted t ++ y) : s = t ∧ x = y := by
  simp only [quoted, List.cons_append, List.append_assoc, List.cons.injEq, true_and, List.nil_append] at h
  exact escs_inj s t h

theorem upto_inj : ∀ (a b : List UInt8) {x y : List UInt8} {c : UInt8}, c ∉ a → c ∉ b → a ++ c :: x = b ++ c :: y → a = b ∧ x = y
  | [], [], x, y, c, _, _, h => ⟨rfl, by simpa using h⟩
  | [], d :: b, x, y, c, _, hb, h => by
    simp only [List.nil_append, List.cons_append, List.cons.injEq] at h
    exact absurd (by simp [h.1]) hb
  | d :: a, [], x, y, c, ha, _, h => by
    simp only [List.nil_append, List.cons_append, List.cons.injEq] at h
    exact absurd (by simp [h.1]) ha
  | d :: a, e :: b, x, y, c, ha, hb, h => by
    simp only [List.cons_append, List.cons.injEq] at h
    obtain ⟨h1, h2⟩ := h
    obtain ⟨h3, h4⟩ := upto_inj a b (fun m => ha (List.mem_cons_of_mem _ m)) (fun m => hb (List.mem_cons_of_mem _ m)) h2
    exact ⟨by rw [h1, h3], h4⟩

theorem bs_inj {s t : ByteArray} (h : bs s = bs t) : s = t := by
  apply ByteArray.ext
  exact Array.toList_inj.1 h

theorem form_inj {a b : Z} {x y : List UInt8} (h : form a ++ x = form b ++ y) : a = b := by
  unfold form at h
  simp only [List.append_assoc] at h
  have h := (quoted_inj (List.append_cancel_left h)).2
  obtain ⟨h1, h⟩ := quoted_inj (List.append_cancel_left h)
  obtain ⟨h2, h⟩ := quoted_inj (List.append_cancel_left h)
  obtain ⟨h3, h⟩ := quoted_inj (List.append_cancel_left h)
  obtain ⟨h4, h⟩ := quoted_inj (List.append_cancel_left h)
  obtain ⟨h5, h⟩ := quoted_inj (List.append_cancel_left h)
  have h := List.append_cancel_left h
  have hno : ∀ i, (44 : UInt8) ∉ Lib.itoa i := fun i => itoa_no i 44 (by decide)
  obtain ⟨h6, h⟩ := upto_inj _ _ (hno _) (hno _) h
  obtain ⟨h7, h⟩ := quoted_inj (List.append_cancel_left h)
  obtain ⟨h8, h⟩ := quoted_inj (List.append_cancel_left h)
  obtain ⟨h9, _⟩ := quoted_inj (List.append_cancel_left h)
  cases a
  cases b
  simp only [Z.mk.injEq]
  exact ⟨bs_inj h9, itoa_inj h6, bs_inj h2, bs_inj h5, bs_inj h1, bs_inj h3, bs_inj h4, bs_inj h8, bs_inj h7⟩

/-! ### the frame's word does not stand in a seal -/
/-- How much of ',"sea' has been read; 5: all of it, once. -/
def step (st : Nat) (c : UInt8) : Nat :=
  if st = 5 then 5 else if c = 44 then 1 else if st = 1 ∧ c = 34 then 2 else if st = 2 ∧ c = 115 then 3 else if st = 3 ∧ c = 101 then 4 else if st = 4 ∧ c = 97 then 5 else 0

def run (st : Nat) (l : List UInt8) : Nat := l.foldl step st

theorem run_append (st : Nat) (a b : List UInt8) : run st (a ++ b) = run (run st a) b := List.foldl_append

theorem run_five (l : List UInt8) : run 5 l = 5 := by
  induction l with
  | nil => rfl
  | cons c l ih => exact ih

theorem run_esc (c : UInt8) : (run 0 (esc c) = 0 ∨ run 0 (esc c) = 1) ∧ (run 1 (esc c) = 0 ∨ run 1 (esc c) = 1) := by
  revert c
  exact u8_all (by decide +kernel)

theorem run_escs : ∀ (l : List UInt8) (st : Nat), st = 0 ∨ st = 1 → run st (escs l) = 0 ∨ run st (escs l) = 1
  | [], st, h => h
  | c :: l, st, h => by
    simp only [escs, List.flatMap_cons, run_append]
    refine run_escs l _ ?_
    rcases h with rfl | rfl
    · exact (run_esc c).1
    · exact (run_esc c).2

/-- Behind a string's last quote. -/
theorem run_quoted (l : List UInt8) : run 0 (quoted l) = 0 ∨ run 0 (quoted l) = 2 := by
  show run 0 (escs l ++ [34]) = 0 ∨ run 0 (escs l ++ [34]) = 2
  rw [run_append]
  rcases run_escs l 0 (.inl rfl) with h | h <;> rw [h]
  · exact .inl rfl
  · exact .inr rfl

theorem run_key (k : List UInt8) (h0 : run 0 k = 0) (h2 : run 2 k = 0) {st : Nat} (h : st = 0 ∨ st = 2) : run st k = 0 := by
  rcases h with rfl | rfl
  · exact h0
  · exact h2

theorem run_digits : ∀ (l : List UInt8), (∀ c ∈ l, c.toNat = 45 ∨ (48 ≤ c.toNat ∧ c.toNat ≤ 57)) → run 0 l = 0
  | [], _ => rfl
  | c :: l, h => by
    have hc := h c (by simp)
    have e : step 0 c = 0 := by
      have : c ≠ 44 := by intro e; subst e; revert hc; decide
      simp [step, this]
    show run (step 0 c) l = 0
    rw [e]
    exact run_digits l fun d hd => h d (List.mem_cons_of_mem _ hd)

theorem run_itoa (i : Int) : run 0 (Lib.itoa i) = 0 := run_digits _ (itoa_mem i)

theorem run_form (z : Z) : run 0 (form z) = 0 := by
  unfold form
  simp only [run_append]
  rw [run_key kAlg (by decide) (by decide) (.inl rfl), run_key kChain (by decide) (by decide) (run_quoted _), run_key kContent (by decide) (by decide) (run_quoted _), run_key kKey (by decide) (by decide) (run_quoted _),
    run_key kNonce (by decide) (by decide) (run_quoted _), run_key kPrev (by decide) (by decide) (run_quoted _), run_key kSeq (by decide) (by decide) (run_quoted _), run_itoa,
    run_key kSig (by decide) (by decide) (.inl rfl), run_key kSat (by decide) (by decide) (run_quoted _), run_key kStream (by decide) (by decide) (run_quoted _), run_key kV (by decide) (by decide) (run_quoted _), run_itoa]
  decide

theorem step_le (st : Nat) (c : UInt8) : step st c ≤ 5 := by
  unfold step
  repeat (split; · omega)
  omega

theorem run_le : ∀ (l : List UInt8) (st : Nat), st ≤ 5 → run st l ≤ 5
  | [], _, h => h
  | c :: l, st, _ => run_le l (step st c) (step_le st c)

theorem run_seal (st : Nat) (h : st ≤ 5) : run st kSeal = 5 := by
  have : ∀ st, st < 6 → run st kSeal = 5 := by decide
  exact this st (by omega)

theorem entry_side {t : List UInt8} {a b : Z} (h : kSeal ++ (form a ++ kEnd) = t ++ (kSeal ++ (form b ++ kEnd))) : t = [] := by
  cases t with
  | nil => rfl
  | cons c t =>
    exfalso
    have h1 : [34, 115, 101, 97, 108, 34, 58] ++ (form a ++ kEnd) = t ++ (kSeal ++ (form b ++ kEnd)) := (List.cons.inj (show 44 :: ([34, 115, 101, 97, 108, 34, 58] ++ (form a ++ kEnd)) = c :: (t ++ (kSeal ++ (form b ++ kEnd))) from h)).2
    have h2 := congrArg (run 0) h1
    rw [run_append, run_append, run_append, run_append, run_append] at h2
    rw [show run 0 [34, 115, 101, 97, 108, 34, 58] = 0 from by decide, run_form, run_seal _ (run_le _ _ (by omega)), run_five, run_five] at h2
    exact absurd h2 (by decide)

theorem entry_inj {r s : List UInt8} {a b : Z} (h : entry r a = entry s b) : r = s ∧ a = b := by
  unfold entry at h
  have h := List.append_cancel_left h
  have key : r = s := by
    rcases List.append_eq_append_iff.1 h with ⟨t, hs, ht⟩ | ⟨t, hs, ht⟩
    · have := entry_side ht
      subst this
      simpa using hs.symm
    · have := entry_side ht
      subst this
      simpa using hs
  subst key
  exact ⟨rfl, form_inj (List.append_cancel_left (List.append_cancel_left h))⟩

/-! ### sizes -/
theorem quoted_le (l : List UInt8) : (quoted l).length ≤ 6 * l.length + 2 := by
  have := escs_le l
  simp only [quoted, List.length_cons, List.length_append, List.length_nil]
  omega

end Go.Proofs.Qxb6600084aDoor.Plain
