/-
  The plain side: the parser on the rest of the text, as a list of bytes; what an appended result changes. No run of the model here.
-/
namespace Go.Proofs.Qxb6614847aFmt

def isSp (c : UInt8) : Bool := c == 32 || c == 9 || c == 13 || c == 10
def specials : List UInt8 := [40, 41, 60, 62, 64, 44, 59, 58, 92, 34, 47, 91, 93, 63, 61]
def tokB (c : UInt8) : Bool := decide (33 ≤ c.toNat) && decide (c.toNat ≤ 126) && !specials.contains c
def digB (c : UInt8) : Bool := decide (48 ≤ c.toNat) && decide (c.toNat ≤ 57)
def kwB (c : UInt8) : Bool := (decide (97 ≤ c.toNat) && decide (c.toNat ≤ 122)) || (decide (65 ≤ c.toNat) && decide (c.toNat ≤ 90)) || digB c || c == 45
def low (c : UInt8) : UInt8 := if 65 ≤ c.toNat ∧ c.toNat ≤ 90 then c + 32 else c

/-- quotedString, behind the opening quote: the content, the rest. -/
def quo : List UInt8 → List UInt8 → Option (List UInt8 × List UInt8)
  | _, [] => none
  | acc, c :: r =>
    if c = 92 then (match r with | [] => none | d :: r' => quo (acc ++ [d]) r')
    else if c = 34 then some (acc, r)
    else quo (acc ++ [c]) r
/-- skipComment, d parens open; q: inside a quoted string. -/
def com : Nat → Bool → List UInt8 → Option (List UInt8)
  | _, _, [] => none
  | d, q, c :: r =>
    if c = 92 then (match r with | [] => none | _ :: r' => com d q r')
    else if c = 34 then com d (!q) r
    else if q = true then com d q r
    else if c = 40 then com (d + 1) q r
    else if c = 41 then (if d ≤ 1 then some r else com (d - 1) q r)
    else com d q r
/-- skipSpace: d parens open (0: outside). -/
def sp : Nat → Bool → List UInt8 → Option (List UInt8)
  | d, _, [] => if d = 0 then some [] else none
  | d, q, c :: r =>
    if d = 0 then (if isSp c = true then sp 0 q r else if c = 40 then sp 1 q r else some (c :: r))
    else if c = 92 then (match r with | [] => none | _ :: r' => sp d q r')
    else if c = 34 then sp d (!q) r
    else if q = true then sp d q r
    else if c = 40 then sp (d + 1) q r
    else if c = 41 then sp (d - 1) q r
    else sp d q r
def space (l : List UInt8) : Option (List UInt8) := sp 0 false l

theorem quo_cons (acc : List UInt8) (c : UInt8) (r : List UInt8) : quo acc (c :: r) = if c = 92 then (match r with | [] => none | d :: r' => quo (acc ++ [d]) r') else if c = 34 then some (acc, r) else quo (acc ++ [c]) r := by
  cases r <;> rfl
theorem com_cons (d : Nat) (q : Bool) (c : UInt8) (r : List UInt8) : com d q (c :: r) = if c = 92 then (match r with | [] => none | _ :: r' => com d q r') else if c = 34 then com d (!q) r else if q = true then com d q r else if c = 40 then com (d + 1) q r else if c = 41 then (if d ≤ 1 then some r else com (d - 1) q r) else com d q r := by
  cases r <;> rfl
theorem sp_cons (d : Nat) (q : Bool) (c : UInt8) (r : List UInt8) : sp d q (c :: r) = if d = 0 then (if isSp c = true then sp 0 q r else if c = 40 then sp 1 q r else some (c :: r)) else if c = 92 then (match r with | [] => none | _ :: r' => sp d q r') else if c = 34 then sp d (!q) r else if q = true then sp d q r else if c = 40 then sp (d + 1) q r else if c = 41 then sp (d - 1) q r else sp d q r := by
  cases r <;> rfl
/-! ### how they go together -/
theorem com_quo : ∀ (n : Nat) (l acc : List UInt8) (d : Nat), l.length ≤ n → com d true l = (quo acc l).bind fun x => com d false x.2 := by
  intro n
  induction n with
  | zero =>
    intro l acc d h
    match l, h with
    | [], _ => rfl
  | succ n ih =>
    intro l acc d h
    match l, h with
    | [], _ => rfl
    | c :: r, h =>
      rw [List.length_cons] at h
      rw [com_cons, quo_cons]
      by_cases h1 : c = 92
      · rw [if_pos h1, if_pos h1]
        match r, h with
        | [], _ => rfl
        | e :: r', h => exact ih r' _ d (by rw [List.length_cons] at h; omega)
      · rw [if_neg h1, if_neg h1]
        by_cases h2 : c = 34
        · rw [if_pos h2, if_pos h2]; rfl
        · rw [if_neg h2, if_neg h2, if_pos rfl]
          exact ih r _ d (by omega)
theorem sp_com : ∀ (n : Nat) (l : List UInt8) (d : Nat) (q : Bool), l.length ≤ n → sp (d + 1) q l = (com (d + 1) q l).bind fun r => sp 0 false r := by
  intro n
  induction n with
  | zero =>
    intro l d q h
    match l, h with
    | [], _ => rfl
  | succ n ih =>
    intro l d q h
    match l, h with
    | [], _ => rfl
    | c :: r, h =>
      rw [List.length_cons] at h
      rw [com_cons, sp_cons]
      rw [if_neg (Nat.succ_ne_zero d)]
      by_cases h1 : c = 92
      · rw [if_pos h1, if_pos h1]
        match r, h with
        | [], _ => rfl
        | e :: r', h => exact ih r' _ _ (by rw [List.length_cons] at h; omega)
      rw [if_neg h1, if_neg h1]
      by_cases h2 : c = 34
      · rw [if_pos h2, if_pos h2]; exact ih r _ _ (by omega)
      rw [if_neg h2, if_neg h2]
      by_cases h3 : q = true
      · rw [if_pos h3, if_pos h3]; exact ih r _ _ (by omega)
      rw [if_neg h3, if_neg h3]
      by_cases h4 : c = 40
      · rw [if_pos h4, if_pos h4]; exact ih r _ _ (by omega)
      rw [if_neg h4, if_neg h4]
      by_cases h5 : c = 41
      · rw [if_pos h5, if_pos h5]
        have hq : q = false := Bool.eq_false_iff.mpr h3
        cases d with
        | zero => rw [if_pos (Nat.le_refl _), hq]; rfl
        | succ d => rw [if_neg (by omega)]; exact ih r d q (by omega)
      · rw [if_neg h5, if_neg h5]; exact ih r _ _ (by omega)

/-! ### an appended tail that opens with a semicolon and bears no quote, paren, backslash -/
structure Tail (X : List UInt8) : Prop where
  head : ∃ r, X = 59 :: r
  calm : ∀ c ∈ X, c ≠ 92 ∧ c ≠ 34 ∧ c ≠ 40 ∧ c ≠ 41
/-- The rest with the tail behind it. -/
def more (X : List UInt8) (o : Option (List UInt8)) : Option (List UInt8) := o.map (· ++ X)
theorem quo_calm : ∀ (X : List UInt8) (acc : List UInt8), (∀ c ∈ X, c ≠ 92 ∧ c ≠ 34 ∧ c ≠ 40 ∧ c ≠ 41) → quo acc X = none
  | [], _, _ => rfl
  | c :: r, acc, h => by
    rw [quo_cons]
    have hc := h c (List.mem_cons_self ..)
    rw [if_neg hc.1, if_neg hc.2.1]
    exact quo_calm r _ fun x hx => h x (List.mem_cons_of_mem _ hx)
theorem com_calm : ∀ (X : List UInt8) (d : Nat) (q : Bool), (∀ c ∈ X, c ≠ 92 ∧ c ≠ 34 ∧ c ≠ 40 ∧ c ≠ 41) → com d q X = none
  | [], _, _, _ => rfl
  | c :: r, d, q, h => by
    rw [com_cons]
    have hc := h c (List.mem_cons_self ..)
    rw [if_neg hc.1, if_neg hc.2.1, if_neg hc.2.2.1, if_neg hc.2.2.2]
    have := com_calm r d q fun x hx => h x (List.mem_cons_of_mem _ hx)
    split <;> exact this
theorem sp_calm (X : List UInt8) (d : Nat) (q : Bool) (h : ∀ c ∈ X, c ≠ 92 ∧ c ≠ 34 ∧ c ≠ 40 ∧ c ≠ 41) : sp (d + 1) q X = none := by
  rw [sp_com X.length X d q (Nat.le_refl _), com_calm X _ _ h]; rfl
theorem quo_more {X : List UInt8} (hX : Tail X) : ∀ (n : Nat) (l acc : List UInt8), l.length ≤ n → quo acc (l ++ X) = (quo acc l).map fun x => (x.1, x.2 ++ X) := by
  intro n
  induction n with
  | zero =>
    intro l acc h
    match l, h with
    | [], _ => exact quo_calm X acc hX.calm
  | succ n ih =>
    intro l acc h
    match l, h with
    | [], _ => exact quo_calm X acc hX.calm
    | c :: r, h =>
      rw [List.length_cons] at h
      rw [List.cons_append, quo_cons, quo_cons]
      by_cases h1 : c = 92
      · rw [if_pos h1, if_pos h1]
        match r, h with
        | [], _ =>
          obtain ⟨t, ht⟩ := hX.head
          rw [List.nil_append, ht]
          have hc := hX.calm
          rw [ht] at hc
          exact quo_calm t _ fun x hx => hc x (List.mem_cons_of_mem _ hx)
        | e :: r', h => exact ih r' _ (by rw [List.length_cons] at h; omega)
      rw [if_neg h1, if_neg h1]
      by_cases h2 : c = 34
      · rw [if_pos h2, if_pos h2]; rfl
      · rw [if_neg h2, if_neg h2]; exact ih r _ (by omega)
theorem sp_more {X : List UInt8} (hX : Tail X) : ∀ (n : Nat) (l : List UInt8) (d : Nat) (q : Bool), l.length ≤ n → sp d q (l ++ X) = more X (sp d q l) := by
  have nil : ∀ d q, sp d q ([] ++ X) = more X (sp d q []) := fun d q => by
    cases d with
    | zero =>
      obtain ⟨t, ht⟩ := hX.head
      rw [List.nil_append, ht, sp_cons, if_pos rfl, if_neg (by decide), if_neg (by decide)]
      rfl
    | succ d => exact sp_calm X d q hX.calm
  intro n
  induction n with
  | zero =>
    intro l d q h
    match l, h with
    | [], _ => exact nil d q
  | succ n ih =>
    intro l d q h
    match l, h with
    | [], _ => exact nil d q
    | c :: r, h =>
      rw [List.length_cons] at h
      rw [List.cons_append, sp_cons, sp_cons]
      by_cases h0 : d = 0
      · rw [if_pos h0, if_pos h0]
        by_cases h1 : isSp c = true
        · rw [if_pos h1, if_pos h1]; exact ih r _ _ (by omega)
        rw [if_neg h1, if_neg h1]
        by_cases h2 : c = 40
        · rw [if_pos h2, if_pos h2]; exact ih r _ _ (by omega)
        · rw [if_neg h2, if_neg h2]; rfl
      rw [if_neg h0, if_neg h0]
      by_cases h1 : c = 92
      · rw [if_pos h1, if_pos h1]
        match r, h with
        | [], _ =>
          obtain ⟨t, ht⟩ := hX.head
          rw [List.nil_append, ht]
          have hc := hX.calm
          rw [ht] at hc
          obtain ⟨d', rfl⟩ : ∃ d', d = d' + 1 := ⟨d - 1, by omega⟩
          exact sp_calm t d' q fun x hx => hc x (List.mem_cons_of_mem _ hx)
        | e :: r', h => exact ih r' _ _ (by rw [List.length_cons] at h; omega)
      rw [if_neg h1, if_neg h1]
      by_cases h2 : c = 34
      · rw [if_pos h2, if_pos h2]; exact ih r _ _ (by omega)
      rw [if_neg h2, if_neg h2]
      by_cases h3 : q = true
      · rw [if_pos h3, if_pos h3]; exact ih r _ _ (by omega)
      rw [if_neg h3, if_neg h3]
      by_cases h4 : c = 40
      · rw [if_pos h4, if_pos h4]; exact ih r _ _ (by omega)
      rw [if_neg h4, if_neg h4]
      by_cases h5 : c = 41
      · rw [if_pos h5, if_pos h5]; exact ih r _ _ (by omega)
      · rw [if_neg h5, if_neg h5]; exact ih r _ _ (by omega)

/-! ### the parser -/
/-- The text from l to its rest r. -/
def cut (l r : List UInt8) : List UInt8 := l.take (l.length - r.length)
def kw (l : List UInt8) : List UInt8 := (l.takeWhile kwB).map low
/-- value: the authserv-id. -/
def val (l : List UInt8) : Option (List UInt8 × List UInt8) :=
  if l.head? = some 34 then (quo [] l.tail).map fun x => (cut l x.2, x.2)
  else if l.takeWhile tokB = [] then none else some (l.takeWhile tokB, l.dropWhile tokB)
def pvStop (c : UInt8) : Bool := isSp c || c == 40 || c == 41 || c == 59
/-- propertyValue's loop: has a byte been taken; the last quoted content; is it alone; inside a quoted string: whether it began the value, and its content so far. -/
def pv (st : Bool) (ct : List UInt8) (al : Bool) : Option (Bool × List UInt8) → List UInt8 → Option (Bool × List UInt8 × Bool × List UInt8)
  | none, [] => some (st, ct, al, [])
  | some _, [] => none
  | none, c :: r => if pvStop c = true then some (st, ct, al, c :: r) else if c = 34 then pv st ct al (some (!st, [])) r else pv true ct false none r
  | some (a, acc), c :: r => if c = 92 then (match r with | [] => none | d :: r' => pv st ct al (some (a, acc ++ [d])) r') else if c = 34 then pv true acc a none r else pv st ct al (some (a, acc ++ [c])) r
def pval (l : List UInt8) : Option (List UInt8 × List UInt8) :=
  (pv false [] false none l).bind fun x => if x.1 = true then some (if x.2.2.1 = true then x.2.1 else cut l x.2.2.2, x.2.2.2) else none
def eqL (l : List UInt8) : Option (List UInt8) := if l.head? = some 61 then space l.tail else none
/-- What is left at the end of a result. -/
def stopL (l : List UInt8) : Bool := l.isEmpty || l.head? == some 59
abbrev Props := List (List UInt8 × List UInt8)
def prop (ps : Props) (l : List UInt8) : Option (Props × List UInt8) :=
  if kw l = [] then none
  else (space (l.dropWhile kwB)).bind fun l1 =>
    if l1.head? = some 46 then
      (space l1.tail).bind fun l2 =>
        if kw l2 = [] then none
        else (space (l2.dropWhile kwB)).bind fun l3 => (eqL l3).bind fun l4 => (pval l4).bind fun x =>
          if (ps.map (·.1)).contains (kw l ++ 46 :: kw l2) = true then none else some (ps ++ [(kw l ++ 46 :: kw l2, x.1)], x.2)
    else (eqL l1).bind fun l4 => (pval l4).bind fun x => some (ps, x.2)
def props : Nat → Props → List UInt8 → Option (Props × List UInt8)
  | 0, _, _ => none
  | n + 1, ps, l => (space l).bind fun l1 => if stopL l1 = true then some (ps, l1) else (prop ps l1).bind fun x => props n x.1 x.2
abbrev Res := List UInt8 × List UInt8 × Props
def version (l : List UInt8) : Option (List UInt8) :=
  if l.head? = some 47 then (space l.tail).bind fun l2 => if l2.takeWhile digB = [] then none else space (l2.dropWhile digB) else some l
def result (F : Nat) (l : List UInt8) : Option (Option Res × List UInt8) :=
  if kw l = [] then none
  else (space (l.dropWhile kwB)).bind fun l1 =>
    if kw l = [110, 111, 110, 101] ∧ stopL l1 = true then some (none, l1)
    else (version l1).bind fun l3 => (eqL l3).bind fun l4 =>
      if kw l4 = [] then none else (props F [] (l4.dropWhile kwB)).map fun x => (some (kw l, kw l4, x.1), x.2)
def results (F : Nat) : Nat → List Res → List UInt8 → Option (List Res)
  | 0, _, _ => none
  | n + 1, acc, l =>
    if l = [] then some acc
    else if l.head? = some 59 then
      (space l.tail).bind fun l1 => if stopL l1 = true then results F n acc l1 else (result F l1).bind fun x => results F n (acc ++ x.1.toList) x.2
    else none
def allRes (F n : Nat) (l : List UInt8) : Option (List Res) :=
  (space l).bind fun l1 => (if (l1.head?.map digB).getD false = true then space (l1.dropWhile digB) else some l1).bind fun l2 => results F n [] l2
/-- Parse: the authserv-id, and the results where the field is read. -/
def parse (F n : Nat) (s : List UInt8) : List UInt8 × Option (List Res) :=
  match space s with
  | none => ([], none)
  | some l => match val l with
    | none => ([], none)
    | some x => (x.1, allRes F n x.2)
end Go.Proofs.Qxb6614847aFmt
