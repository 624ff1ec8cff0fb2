/-
  Plain lists of bytes: JSON number literals, no Go in sight. (Seat b6614357a.)
-/
namespace Go.Proofs.Qxb6614357a.Plain
set_option linter.unusedVariables false

def isD (c : UInt8) : Bool := decide (48 ≤ c.toNat) && decide (c.toNat ≤ 57)
def digs (l : List UInt8) : List UInt8 := l.takeWhile isD
def rest (l : List UInt8) : List UInt8 := l.dropWhile isD

theorem digs_rest (l : List UInt8) : digs l ++ rest l = l := List.takeWhile_append_dropWhile
theorem rest_eq_drop (l : List UInt8) : rest l = l.drop (digs l).length := by
  have h : (digs l ++ rest l).drop (digs l).length = rest l := List.drop_left
  rw [digs_rest] at h
  exact h.symm
theorem digs_len (l : List UInt8) : (digs l).length + (rest l).length = l.length := by
  have := congrArg List.length (digs_rest l)
  rw [List.length_append] at this
  exact this
theorem digs_cons_yes (c : UInt8) (t : List UInt8) (h : isD c = true) : digs (c :: t) = c :: digs t := by simp [digs, h]
theorem digs_cons_no (c : UInt8) (t : List UInt8) (h : isD c = false) : digs (c :: t) = [] := by simp [digs, h]
theorem rest_cons_yes (c : UInt8) (t : List UInt8) (h : isD c = true) : rest (c :: t) = rest t := by simp [rest, h]
theorem rest_cons_no (c : UInt8) (t : List UInt8) (h : isD c = false) : rest (c :: t) = c :: t := by simp [rest, h]
theorem digs_nil : digs [] = [] := rfl
theorem rest_nil : rest [] = [] := rfl
theorem rest_head (l : List UInt8) (c : UInt8) (t : List UInt8) (h : rest l = c :: t) : isD c = false := by
  induction l with
  | nil => simp [rest] at h
  | cons a l ih =>
    by_cases ha : isD a = true
    · rw [rest_cons_yes a l ha] at h; exact ih h
    · have ha' : isD a = false := by simpa using ha
      rw [rest_cons_no a l ha'] at h
      injection h with h1 h2
      rw [← h1]; exact ha'
theorem digs_all (l : List UInt8) : ∀ c ∈ digs l, isD c = true := by
  induction l with
  | nil => intro c hc; simp [digs] at hc
  | cons a l ih =>
    intro c hc
    by_cases ha : isD a = true
    · rw [digs_cons_yes a l ha] at hc
      rcases List.mem_cons.1 hc with rfl | h
      · exact ha
      · exact ih c h
    · have ha' : isD a = false := by simpa using ha
      rw [digs_cons_no a l ha'] at hc; cases hc

/-- does l begin with c? -/
def headIs (l : List UInt8) (c : UInt8) : Bool := l.head? == some c
def afterSign (l : List UInt8) : List UInt8 := if headIs l 45 then l.tail else l
/-- what follows the exponent's sign -/
def afterSign2 (l : List UInt8) : List UInt8 := if headIs l 45 then l.tail else if headIs l 43 then l.tail else l

def expOk (t : List UInt8) : Bool := !(digs (afterSign2 t)).isEmpty && (rest (afterSign2 t)).isEmpty
def tailOk : List UInt8 → Bool
  | [] => true
  | c :: t => (c == 101 || c == 69) && expOk t
def fracOk (l : List UInt8) : Bool := if headIs l 46 then !(digs l.tail).isEmpty && tailOk (rest l.tail) else tailOk l
def wholeOk (d : List UInt8) : Bool := !d.isEmpty && !(decide (1 < d.length) && headIs d 48)
/-- is l a JSON number literal? -/
def J (l : List UInt8) : Bool := wholeOk (digs (afterSign l)) && fracOk (rest (afterSign l))
/-- the fraction's digits -/
def fracDigs (l : List UInt8) : List UInt8 := if headIs l 46 then digs l.tail else []
/-- what parse's 'digits' says -/
def count (l : List UInt8) : Nat := (digs (afterSign l)).length + (fracDigs (rest (afterSign l))).length

def isE (c : UInt8) : Bool := c == 101 || c == 69
/-- the digits before the first exponent mark -/
def mant : List UInt8 → Nat
  | [] => 0
  | c :: t => if isE c then 0 else (if isD c then 1 else 0) + mant t

theorem isE_not_isD (c : UInt8) (h : isD c = true) : isE c = false := by
  unfold isD at h
  unfold isE
  simp only [Bool.and_eq_true, decide_eq_true_eq] at h
  rw [Bool.or_eq_false_iff, beq_eq_false_iff_ne, beq_eq_false_iff_ne]
  constructor
  · rintro rfl; exact absurd h.2 (by decide)
  · rintro rfl; exact absurd h.2 (by decide)

theorem mant_digs (l : List UInt8) : mant l = (digs l).length + mant (rest l) := by
  induction l with
  | nil => rfl
  | cons a l ih =>
    by_cases ha : isD a = true
    · rw [digs_cons_yes a l ha, rest_cons_yes a l ha]
      simp only [mant, isE_not_isD a ha, ha, if_true, Bool.false_eq_true, if_false, List.length_cons]
      omega
    · have ha' : isD a = false := by simpa using ha
      rw [digs_cons_no a l ha', rest_cons_no a l ha']; simp

theorem mant_skip (c : UInt8) (t : List UInt8) (h1 : isE c = false) (h2 : isD c = false) : mant (c :: t) = mant t := by
  simp [mant, h1, h2]

theorem headIs_cons (c d : UInt8) (t : List UInt8) : headIs (c :: t) d = (c == d) := by
  simp [headIs]

theorem mant_tail (l : List UInt8) (h : tailOk l = true) : mant l = 0 := by
  match l, h with
  | [], _ => rfl
  | c :: t, h =>
    have : isE c = true := by
      simp only [tailOk, Bool.and_eq_true] at h
      exact h.1
    simp [mant, this]

/-- A literal has as many digits as parse says. -/
theorem mant_J (l : List UInt8) (h : J l = true) : mant l = count l := by
  have hs : mant l = mant (afterSign l) := by
    unfold afterSign
    cases l with
    | nil => simp
    | cons c t =>
      rw [headIs_cons]
      split
      · rename_i hc
        have hc' : c = 45 := by simpa using hc
        subst hc'
        exact mant_skip 45 t (by decide) (by decide)
      · rfl
  unfold J at h
  simp only [Bool.and_eq_true] at h
  rw [hs, mant_digs]
  unfold count
  congr 1
  generalize rest (afterSign l) = r at *
  have hf := h.2
  unfold fracOk at hf
  unfold fracDigs
  cases r with
  | nil => rfl
  | cons c t =>
    rw [headIs_cons] at hf ⊢
    by_cases hc : c = 46
    · subst hc
      simp only [beq_self_eq_true, if_true, List.tail_cons, Bool.and_eq_true] at hf ⊢
      rw [mant_skip 46 t (by decide) (by decide), mant_digs, mant_tail _ hf.2, Nat.add_zero]
    · have hc' : (c == 46) = false := by simpa using hc
      rw [hc'] at hf ⊢
      simp only [Bool.false_eq_true, if_false] at hf ⊢
      rw [mant_tail _ hf]; rfl

/-- isJSONNumber's own way through the whole part -/
theorem J_zero (l t : List UInt8) (h : afterSign l = 48 :: t) : J l = fracOk t := by
  unfold J
  rw [h, digs_cons_yes 48 t (by decide), rest_cons_yes 48 t (by decide)]
  cases t with
  | nil => decide
  | cons c u =>
    by_cases hc : isD c = true
    · rw [digs_cons_yes c u hc]
      have e1 : fracOk (c :: u) = false := by
        unfold fracOk
        have hne : ∀ x : UInt8, isD x = false → (c == x) = false := fun x hx => by
          rw [beq_eq_false_iff_ne]; rintro rfl; rw [hc] at hx; cases hx
        rw [headIs_cons, hne 46 (by decide)]
        simp [tailOk, hne 101 (by decide), hne 69 (by decide)]
      rw [e1]
      simp [wholeOk, headIs_cons]
    · have hc' : isD c = false := by simpa using hc
      rw [digs_cons_no c u hc', rest_cons_no c u hc']
      simp [wholeOk]
theorem J_digit (l : List UInt8) (c : UInt8) (t : List UInt8) (h : afterSign l = c :: t) (hc : isD c = true) (h0 : c ≠ 48) : J l = fracOk (rest (afterSign l)) := by
  unfold J
  rw [h, digs_cons_yes c t hc]
  simp [wholeOk, headIs_cons, h0]
theorem J_other (l : List UInt8) (c : UInt8) (t : List UInt8) (h : afterSign l = c :: t) (hc : isD c = false) : J l = false := by
  unfold J
  rw [h, digs_cons_no c t hc]
  simp [wholeOk]
theorem J_none (l : List UInt8) (h : afterSign l = []) : J l = false := by
  unfold J
  rw [h]
  decide
end Go.Proofs.Qxb6614357a.Plain
