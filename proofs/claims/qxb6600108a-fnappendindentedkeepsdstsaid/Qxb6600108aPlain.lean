/-
  The plain law of appendIndented: no Go in it. What the loop writes behind dst, as a function of compact and of what stands ahead of each line; where a string of compact ends; which compacts the law's own scan lets by.
-/
namespace Go.Proofs.Qxb6600108a.Plain

/-- Where the string that begins at j ends: the place of its closing quote. -/
def endOf (c : List UInt8) : Nat → Nat → Nat
  | 0, j => j
  | f + 1, j => match c[j]? with
    | none => j
    | some b => if b = 34 then j else if b = 92 then endOf c f (j + 2) else endOf c f (j + 1)

/-- It does end. -/
def closes (c : List UInt8) : Nat → Nat → Prop
  | 0, _ => False
  | f + 1, j => match c[j]? with
    | none => False
    | some b => if b = 34 then True else if b = 92 then closes c f (j + 2) else closes c f (j + 1)

/-- Every string from i on ends. -/
def good (c : List UInt8) : Nat → Nat → Prop
  | 0, _ => True
  | f + 1, i => match c[i]? with
    | none => True
    | some b => if b = 34 then closes c c.length (i + 1) ∧ good c f (endOf c c.length (i + 1) + 1) else good c f (i + 1)

/-- A newline, what stands ahead of each line, two blanks a level. -/
def blanks : Nat → List UInt8
  | 0 => []
  | n + 1 => blanks n ++ [32, 32]

def nl (pre : List UInt8) (d : Int) : List UInt8 := 10 :: (pre ++ blanks d.toNat)

/-- What is written from place k on. -/
def rest (c pre : List UInt8) : Nat → Nat → Int → Bool → List UInt8
  | 0, _, _, _ => []
  | f + 1, k, d, o => match c[k]? with
    | none => []
    | some b =>
      if b = 125 ∨ b = 93 then (if o then [] else nl pre (d - 1)) ++ (b :: rest c pre f (k + 1) (d - 1) false)
      else (if o then nl pre d else []) ++
        (if b = 34 then (c.take (endOf c c.length (k + 1) + 1)).drop k ++ rest c pre f (endOf c c.length (k + 1) + 1) d false
         else if b = 123 ∨ b = 91 then b :: rest c pre f (k + 1) (d + 1) true
         else if b = 44 then b :: (nl pre d ++ rest c pre f (k + 1) d false)
         else if b = 58 then [58, 32] ++ rest c pre f (k + 1) d false
         else b :: rest c pre f (k + 1) d false)

theorem blanks_length (n : Nat) : (blanks n).length = 2 * n := by
  induction n with
  | zero => rfl
  | succ n ih => simp [blanks, ih]; omega

theorem nl_length (pre : List UInt8) (d : Int) : (nl pre d).length = 1 + pre.length + 2 * d.toNat := by
  simp [nl, blanks_length]
  omega

/-! ### endOf, closes: a step -/
theorem endOf_hit {c : List UInt8} {f j : Nat} (h : j < c.length) (hb : c[j] = 34) : endOf c (f + 1) j = j := by
  simp [endOf, h, hb]

theorem endOf_esc {c : List UInt8} {f j : Nat} (h : j < c.length) (hb : c[j] = 92) : endOf c (f + 1) j = endOf c f (j + 2) := by
  simp [endOf, h, hb]

theorem endOf_next {c : List UInt8} {f j : Nat} (h : j < c.length) (h1 : c[j] ≠ 34) (h2 : c[j] ≠ 92) : endOf c (f + 1) j = endOf c f (j + 1) := by
  simp [endOf, h, h1, h2]

theorem closes_hit {c : List UInt8} {f j : Nat} (h : j < c.length) (hb : c[j] = 34) : closes c (f + 1) j := by
  simp [closes, h, hb]

theorem closes_esc {c : List UInt8} {f j : Nat} (h : j < c.length) (hb : c[j] = 92) : closes c (f + 1) j ↔ closes c f (j + 2) := by
  simp [closes, h, hb]

theorem closes_next {c : List UInt8} {f j : Nat} (h : j < c.length) (h1 : c[j] ≠ 34) (h2 : c[j] ≠ 92) : closes c (f + 1) j ↔ closes c f (j + 1) := by
  simp [closes, h, h1, h2]

theorem closes_in {c : List UInt8} {f j : Nat} (h : closes c f j) : ∃ g, f = g + 1 ∧ j < c.length := by
  cases f with
  | zero => exact absurd h (by simp [closes])
  | succ g =>
    refine ⟨g, rfl, ?_⟩
    rcases Nat.lt_or_ge j c.length with h1 | h1
    · exact h1
    · simp [closes, List.getElem?_eq_none h1] at h

/-- The closing quote lies inside, behind the place where one began. -/
theorem endOf_in {c : List UInt8} : ∀ (f j : Nat), closes c f j → j ≤ endOf c f j ∧ endOf c f j < c.length
  | 0, _, h => absurd h (by simp [closes])
  | f + 1, j, h => by
    obtain ⟨g, hg, hj⟩ := closes_in h
    by_cases h1 : c[j] = 34
    · rw [endOf_hit hj h1]
      omega
    · by_cases h2 : c[j] = 92
      · rw [closes_esc hj h2] at h
        have := endOf_in f (j + 2) h
        rw [endOf_esc hj h2]
        omega
      · rw [closes_next hj h1 h2] at h
        have := endOf_in f (j + 1) h
        rw [endOf_next hj h1 h2]
        omega

/-! ### good: a step -/
theorem good_str {c : List UInt8} {f i : Nat} (h : i < c.length) (hb : c[i] = 34) : good c (f + 1) i ↔ closes c c.length (i + 1) ∧ good c f (endOf c c.length (i + 1) + 1) := by
  simp [good, h, hb]

theorem good_next {c : List UInt8} {f i : Nat} (h : i < c.length) (hb : c[i] ≠ 34) : good c (f + 1) i ↔ good c f (i + 1) := by
  simp [good, h, hb]

theorem good_end {c : List UInt8} {f i : Nat} (h : ¬ i < c.length) : good c f i := by
  cases f with
  | zero => trivial
  | succ f => simp [good, List.getElem?_eq_none (Nat.le_of_not_lt h)]

/-! ### rest: a step -/
theorem rest_end {c pre : List UInt8} {f k : Nat} {d : Int} {o : Bool} (h : ¬ k < c.length) : rest c pre f k d o = [] := by
  cases f with
  | zero => rfl
  | succ f => simp [rest, List.getElem?_eq_none (Nat.le_of_not_lt h)]

theorem rest_close {c pre : List UInt8} {f k : Nat} {d : Int} {o : Bool} (h : k < c.length) (hb : c[k] = 125 ∨ c[k] = 93) :
    rest c pre (f + 1) k d o = (if o then [] else nl pre (d - 1)) ++ (c[k] :: rest c pre f (k + 1) (d - 1) false) := by
  simp [rest, h, hb]

theorem rest_str {c pre : List UInt8} {f k : Nat} {d : Int} {o : Bool} (h : k < c.length) (hb : c[k] = 34) :
    rest c pre (f + 1) k d o = (if o then nl pre d else []) ++ ((c.take (endOf c c.length (k + 1) + 1)).drop k ++ rest c pre f (endOf c c.length (k + 1) + 1) d false) := by
  simp [rest, h, hb]

theorem rest_open {c pre : List UInt8} {f k : Nat} {d : Int} {o : Bool} (h : k < c.length) (hb : c[k] = 123 ∨ c[k] = 91) :
    rest c pre (f + 1) k d o = (if o then nl pre d else []) ++ (c[k] :: rest c pre f (k + 1) (d + 1) true) := by
  rcases hb with hb | hb <;> simp [rest, h, hb]

theorem rest_comma {c pre : List UInt8} {f k : Nat} {d : Int} {o : Bool} (h : k < c.length) (hb : c[k] = 44) :
    rest c pre (f + 1) k d o = (if o then nl pre d else []) ++ (c[k] :: (nl pre d ++ rest c pre f (k + 1) d false)) := by
  simp [rest, h, hb]

theorem rest_colon {c pre : List UInt8} {f k : Nat} {d : Int} {o : Bool} (h : k < c.length) (hb : c[k] = 58) :
    rest c pre (f + 1) k d o = (if o then nl pre d else []) ++ ([58, 32] ++ rest c pre f (k + 1) d false) := by
  simp [rest, h, hb]

theorem rest_plain {c pre : List UInt8} {f k : Nat} {d : Int} {o : Bool} (h : k < c.length) (h1 : c[k] ≠ 125) (h2 : c[k] ≠ 93) (h3 : c[k] ≠ 34) (h4 : c[k] ≠ 123) (h5 : c[k] ≠ 91) (h6 : c[k] ≠ 44) (h7 : c[k] ≠ 58) :
    rest c pre (f + 1) k d o = (if o then nl pre d else []) ++ (c[k] :: rest c pre f (k + 1) d false) := by
  simp [rest, h, h1, h2, h3, h4, h5, h6, h7]
end Go.Proofs.Qxb6600108a.Plain
