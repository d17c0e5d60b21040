/-
  The plain side by positions: the rest of a text from a place, and that each plain answer is such a rest.
-/
import Derived.Test.Qxb6614847aFmtMore
namespace Go.Proofs.Qxb6614847aFmt

/-- The text from i on. -/
def rest (s : ByteArray) (i : Nat) : List UInt8 := s.data.toList.drop i
theorem rest_length (s : ByteArray) (i : Nat) : (rest s i).length = s.size - i := by unfold rest; rw [List.length_drop]; rfl
theorem rest_end (s : ByteArray) (i : Nat) (h : s.size ≤ i) : rest s i = [] := by
  apply List.eq_nil_of_length_eq_zero; rw [rest_length]; omega
theorem rest_cons (s : ByteArray) (i : Nat) (h : i < s.size) : rest s i = s[i] :: rest s (i + 1) := List.drop_eq_getElem_cons (by simpa using h)
theorem rest_inj {s : ByteArray} {i j : Nat} (hi : i ≤ s.size) (hj : j ≤ s.size) (h : rest s i = rest s j) : i = j := by
  have := congrArg List.length h
  rw [rest_length, rest_length] at this
  omega
theorem rest_suffix {s : ByteArray} {i : Nat} {l : List UInt8} (hi : i ≤ s.size) (h : l <:+ rest s i) : ∃ j, i ≤ j ∧ j ≤ s.size ∧ l = rest s j := by
  obtain ⟨t, ht⟩ := h
  have hl := congrArg List.length ht
  rw [List.length_append, rest_length] at hl
  refine ⟨i + t.length, by omega, by omega, ?_⟩
  unfold rest at ht ⊢
  rw [← List.drop_drop, ← ht, List.drop_left]
theorem quo_suf : ∀ (n : Nat) (l acc : List UInt8), l.length ≤ n → ∀ x, quo acc l = some x → x.2 <:+ l := by
  intro n
  induction n with
  | zero =>
    intro l acc h x e
    match l, h with
    | [], _ => cases e
  | succ n ih =>
    intro l acc h x e
    match l, h with
    | [], _ => cases e
    | c :: r, h =>
      rw [List.length_cons] at h
      rw [quo_cons] at e
      by_cases h1 : c = 92
      · rw [if_pos h1] at e
        match r, h, e with
        | [], _, e => cases e
        | d :: r', h, e =>
          rw [List.length_cons] at h
          exact ((ih r' _ (by omega) x e).trans (List.suffix_cons _ _)).trans (List.suffix_cons _ _)
      rw [if_neg h1] at e
      by_cases h2 : c = 34
      · rw [if_pos h2] at e; rw [← Option.some.inj e]; exact List.suffix_cons _ _
      · rw [if_neg h2] at e
        exact (ih r _ (by omega) x e).trans (List.suffix_cons _ _)
theorem sp_suf : ∀ (n : Nat) (l : List UInt8) (d : Nat) (q : Bool), l.length ≤ n → ∀ x, sp d q l = some x → x <:+ l := by
  have nil : ∀ d q x, sp d q [] = some x → x <:+ [] := fun d q x e => by
    cases d with
    | zero => rw [← Option.some.inj e]; exact List.suffix_refl _
    | succ d => cases e
  intro n
  induction n with
  | zero =>
    intro l d q h x e
    match l, h with
    | [], _ => exact nil d q x e
  | succ n ih =>
    intro l d q h x e
    match l, h with
    | [], _ => exact nil d q x e
    | c :: r, h =>
      rw [List.length_cons] at h
      rw [sp_cons] at e
      have go : ∀ d q, sp d q r = some x → x <:+ c :: r := fun d q e => (ih r d q (by omega) x e).trans (List.suffix_cons _ _)
      by_cases h0 : d = 0
      · rw [if_pos h0] at e
        by_cases h1 : isSp c = true
        · rw [if_pos h1] at e; exact go _ _ e
        rw [if_neg h1] at e
        by_cases h2 : c = 40
        · rw [if_pos h2] at e; exact go _ _ e
        · rw [if_neg h2] at e; rw [← Option.some.inj e]; exact List.suffix_refl _
      rw [if_neg h0] at e
      by_cases h1 : c = 92
      · rw [if_pos h1] at e
        match r, h, e with
        | [], _, e => cases e
        | d' :: r', h, e =>
          rw [List.length_cons] at h
          exact ((ih r' _ _ (by omega) x e).trans (List.suffix_cons _ _)).trans (List.suffix_cons _ _)
      rw [if_neg h1] at e
      by_cases h2 : c = 34
      · rw [if_pos h2] at e; exact go _ _ e
      rw [if_neg h2] at e
      by_cases h3 : q = true
      · rw [if_pos h3] at e; exact go _ _ e
      rw [if_neg h3] at e
      by_cases h4 : c = 40
      · rw [if_pos h4] at e; exact go _ _ e
      rw [if_neg h4] at e
      by_cases h5 : c = 41
      · rw [if_pos h5] at e; exact go _ _ e
      · rw [if_neg h5] at e; exact go _ _ e
theorem pv_suf : ∀ (n : Nat) (l : List UInt8) (st : Bool) (ct : List UInt8) (al : Bool) (o : Option (Bool × List UInt8)), l.length ≤ n → ∀ x, pv st ct al o l = some x → x.2.2.2 <:+ l := by
  have nil : ∀ st ct al o x, pv st ct al o [] = some x → x.2.2.2 <:+ [] := fun st ct al o x e => by
    cases o with
    | none => rw [← Option.some.inj e]; exact List.suffix_refl _
    | some _ => cases e
  intro n
  induction n with
  | zero =>
    intro l st ct al o h x e
    match l, h with
    | [], _ => exact nil _ _ _ _ x e
  | succ n ih =>
    intro l st ct al o h x e
    match l, h with
    | [], _ => exact nil _ _ _ _ x e
    | c :: r, h =>
      rw [List.length_cons] at h
      have go : ∀ st ct al o, pv st ct al o r = some x → x.2.2.2 <:+ c :: r := fun st ct al o e => (ih r st ct al o (by omega) x e).trans (List.suffix_cons _ _)
      match o, e with
      | none, e =>
        rw [pv_none] at e
        by_cases h1 : pvStop c = true
        · rw [if_pos h1] at e; rw [← Option.some.inj e]; exact List.suffix_refl _
        rw [if_neg h1] at e
        by_cases h2 : c = 34
        · rw [if_pos h2] at e; exact go _ _ _ _ e
        · rw [if_neg h2] at e; exact go _ _ _ _ e
      | some (a, acc), e =>
        rw [pv_some] at e
        by_cases h1 : c = 92
        · rw [if_pos h1] at e
          match r, h, e with
          | [], _, e => cases e
          | d' :: r', h, e =>
            rw [List.length_cons] at h
            exact ((ih r' _ _ _ _ (by omega) x e).trans (List.suffix_cons _ _)).trans (List.suffix_cons _ _)
        rw [if_neg h1] at e
        by_cases h2 : c = 34
        · rw [if_pos h2] at e; exact go _ _ _ _ e
        · rw [if_neg h2] at e; exact go _ _ _ _ e
theorem space_at {s : ByteArray} {i : Nat} {l : List UInt8} (hi : i ≤ s.size) (h : space (rest s i) = some l) : ∃ j, i ≤ j ∧ j ≤ s.size ∧ l = rest s j := rest_suffix hi (sp_suf _ _ 0 false (Nat.le_refl _) l h)
theorem quo_at {s : ByteArray} {i : Nat} {acc : List UInt8} {x : List UInt8 × List UInt8} (hi : i ≤ s.size) (h : quo acc (rest s i) = some x) : ∃ j, i ≤ j ∧ j ≤ s.size ∧ x.2 = rest s j := rest_suffix hi (quo_suf _ _ acc (Nat.le_refl _) x h)
theorem dropWhile_at (p : UInt8 → Bool) {s : ByteArray} {i : Nat} (hi : i ≤ s.size) : ∃ j, i ≤ j ∧ j ≤ s.size ∧ (rest s i).dropWhile p = rest s j := rest_suffix hi (List.dropWhile_suffix p)
theorem extract_list (s : ByteArray) (i j : Nat) : (s.extract i j).data.toList = (rest s i).take (j - i) := by
  unfold rest
  rw [ByteArray.data_extract, Array.toList_extract, List.extract_eq_take_drop]
theorem cut_at {s : ByteArray} {i j : Nat} (hij : i ≤ j) (hj : j ≤ s.size) : cut (rest s i) (rest s j) = (s.extract i j).data.toList := by
  unfold cut
  rw [extract_list, rest_length, rest_length]
  congr 1
  omega
theorem takeWhile_at (p : UInt8 → Bool) {s : ByteArray} {i j : Nat} (hij : i ≤ j) (h : (rest s i).dropWhile p = rest s j) : (rest s i).takeWhile p = (s.extract i j).data.toList := by
  have h1 : (rest s i).takeWhile p ++ rest s j = rest s i := by rw [← h, List.takeWhile_append_dropWhile]
  have h2 : (rest s i).take (j - i) ++ rest s j = rest s i := by
    have : rest s j = (rest s i).drop (j - i) := by unfold rest; rw [List.drop_drop]; congr 1; omega
    rw [this, List.take_append_drop]
  rw [extract_list]
  exact List.append_cancel_right (h1.trans h2.symm)
end Go.Proofs.Qxb6614847aFmt
