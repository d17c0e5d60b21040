/-
  The plain law: a form that an atom read as, written out, reads as that form again.
-/
import Derived.Test.Qxb6613685aGreatFmtPlain
namespace Go.Proofs.Qxb6613685aGreatFmt
open Go.Lib

theorem dig_head {D : List UInt8} (hne : D ≠ []) (h : D.all dig = true) : ∃ c r, D = c :: r ∧ dig c = true ∧ r.all dig = true := by
  cases D with
  | nil => exact absurd rfl hne
  | cons c r => rw [List.all_cons, Bool.and_eq_true] at h; exact ⟨c, r, rfl, h.1, h.2⟩
theorem trim_all {D : List UInt8} (h : D.all dig = true) : trimLeftS D digs = [] := by
  unfold trimLeftS
  induction D with
  | nil => rfl
  | cons c r ih =>
    rw [List.all_cons, Bool.and_eq_true] at h
    rw [List.dropWhile_cons, if_pos (by rw [digs_has]; exact h.1)]
    exact ih h.2
theorem trim_signs {D : List UInt8} (hne : D ≠ []) (h : D.all dig = true) : trimLeftS D signs = D := by
  obtain ⟨c, r, rfl, hc, _⟩ := dig_head hne h
  rw [dig_iff] at hc
  unfold trimLeftS
  rw [List.dropWhile_cons, if_neg (fun e => by rw [signs_has] at e; omega)]
theorem trim_signs' {D : List UInt8} (hne : D ≠ []) (h : D.all dig = true) : trimLeftS (45 :: D) signs = D := by
  have := trim_signs hne h
  unfold trimLeftS at this ⊢
  rw [List.dropWhile_cons, if_pos (by decide)]
  exact this
theorem suffix_keep {l : List UInt8} (h : ∀ c, l.getLast? = some c → c ≠ 78) : trimSuffix l [78] = l := by
  unfold trimSuffix hasSuffix
  rw [if_neg]
  intro hs
  rw [List.isSuffixOf_iff_suffix] at hs
  obtain ⟨t, ht⟩ := hs
  exact h 78 (by rw [← ht]; simp) rfl
theorem last_dig {D : List UInt8} (h : D.all dig = true) : ∀ c, D.getLast? = some c → c ≠ 78 := by
  intro c hc e
  have := List.all_eq_true.1 h c (List.mem_of_getLast? hc)
  rw [dig_iff, e] at this
  exact absurd this.2 (by decide)

/-- The two shapes of a written number. -/
structure Shape (l D : List UInt8) (n : Int) : Prop where
  ne : D ≠ []
  all : D.all dig = true
  cases' : (l = D ∧ n = valFrom 0 D) ∨ (l = 45 :: D ∧ n = -(valFrom 0 D : Int))
  lead : D.head? = some 48 → D.length = 1

theorem shape_itoa (n : Int) : ∃ D, Shape (itoa n) D n := by
  unfold itoa
  by_cases h : n < 0
  · rw [if_pos h]
    refine ⟨decDigits n.natAbs, dec_ne _, dec_all _, .inr ⟨rfl, by rw [dec_val]; omega⟩, fun hh => ?_⟩
    have := dec_head _ hh
    rw [this, decDigits_length]
    exact nDigits_small (by decide)
  · rw [if_neg h]
    refine ⟨decDigits n.toNat, dec_ne _, dec_all _, .inl ⟨rfl, by rw [dec_val]; omega⟩, fun hh => ?_⟩
    have := dec_head _ hh
    rw [this, decDigits_length]
    exact nDigits_small (by decide)

theorem shape_body {l D : List UInt8} {n : Int} (h : Shape l D n) : body l = D := by
  rcases h.cases' with ⟨rfl, _⟩ | ⟨rfl, _⟩
  · obtain ⟨c, r, rfl, hc, _⟩ := dig_head h.ne h.all
    rw [dig_iff] at hc
    show (if c.toNat = 45 ∨ c.toNat = 43 then r else c :: r) = c :: r
    rw [if_neg (by omega)]
  · show (if (45 : UInt8).toNat = 45 ∨ (45 : UInt8).toNat = 43 then D else 45 :: D) = D
    rw [if_pos (.inl rfl)]
theorem shape_cond {l D : List UInt8} {n : Int} (h : Shape l D n) : numCond l = true := by
  rcases h.cases' with ⟨rfl, _⟩ | ⟨rfl, _⟩
  · obtain ⟨c, r, rfl, hc, _⟩ := dig_head h.ne h.all
    show (dig c || _) = true
    rw [hc]; rfl
  · obtain ⟨c, r, rfl, hc, _⟩ := dig_head h.ne h.all
    show (dig 45 || (decide ((45 : UInt8).toNat = 43 ∨ (45 : UInt8).toNat = 45) && dig c)) = true
    rw [hc]; rfl
theorem shape_small {l D : List UInt8} {n : Int} (h : Shape l D n) (hl : D.length ≤ 18) : smallL l = some n := by
  unfold smallL
  rw [shape_body h, if_neg, if_pos h.all]
  · rcases h.cases' with ⟨rfl, e⟩ | ⟨rfl, e⟩
    · obtain ⟨c, r, rfl, hc, _⟩ := dig_head h.ne h.all
      rw [if_neg, e]
      intro hh
      simp only [List.head?_cons, Option.some.injEq] at hh
      rw [hh] at hc
      exact absurd hc (by decide)
    · rw [if_pos (show (45 :: D).head? = some 45 from rfl), e]
  · rintro (h1 | h1 | ⟨h1, h2⟩)
    · exact h.ne h1
    · omega
    · have := h.lead h1; omega
theorem shape_big {l D : List UInt8} {n : Int} (h : Shape l D n) (hl : 18 < D.length) (h0 : -9223372036854775808 ≤ n) (h1 : n ≤ 9223372036854775807) : numL l = some (2, [], n, true) := by
  have hs : smallL l = none := by
    unfold smallL
    rw [shape_body h, if_pos (.inr (.inl hl))]
  have ht : trimLeftS l signs = D := by
    rcases h.cases' with ⟨rfl, _⟩ | ⟨rfl, _⟩
    · exact trim_signs h.ne h.all
    · exact trim_signs' h.ne h.all
  have hll : l.length ≤ D.length + 1 := by
    rcases h.cases' with ⟨rfl, _⟩ | ⟨rfl, _⟩
    · omega
    · simp
  unfold numL
  rw [hs]
  show (if (trimLeftS l signs).length + 1 < l.length then none else numTail l (trimLeftS l signs) (trimLeftS (trimLeftS l signs) digs)) = _
  rw [ht, if_neg (by omega), trim_all h.all]
  unfold numTail
  rw [if_neg (fun ⟨_, hh⟩ => by have := h.lead hh; omega), if_pos (.inl rfl)]
  have hsuf : trimSuffix l [78] = l := by
    apply suffix_keep
    rcases h.cases' with ⟨rfl, _⟩ | ⟨rfl, _⟩
    · exact last_dig h.all
    · intro c hc
      rw [List.getLast?_cons, List.getLast?_eq_some_getLast h.ne] at hc
      simp only [Option.getD_some, Option.some.injEq] at hc
      exact last_dig h.all c (by rw [List.getLast?_eq_some_getLast h.ne, hc])
  rw [hsuf]
  have hp : parseUintB 64 D = .ok (valFrom 0 D) := by
    unfold parseUintB
    rw [if_neg h.ne]
    exact parse_digits _ (by decide) D 0 h.all (by rcases h.cases' with ⟨_, e⟩ | ⟨_, e⟩ <;> (show _ ≤ 18446744073709551615; omega))
  have hpi : parseIntB 64 l = .ok n := by
    rcases h.cases' with ⟨rfl, e⟩ | ⟨rfl, e⟩
    · obtain ⟨c, r, hD, hc, _⟩ := dig_head h.ne h.all
      rw [dig_iff] at hc
      rw [hD] at hp e ⊢
      unfold parseIntB
      simp only
      rw [if_neg (by omega), hp]
      simp only
      rw [if_neg (by rintro ⟨_, hh⟩; simp at hh; omega), if_neg (by rintro ⟨hh, _⟩; omega), if_neg (by omega), e]
    · unfold parseIntB
      simp only
      rw [if_pos (.inr rfl), hp]
      simp only
      rw [if_neg (by rintro ⟨hh, _⟩; exact hh rfl), if_neg (by rintro ⟨_, hh⟩; simp at hh; omega), if_pos (show (45 : UInt8).toNat = 45 from rfl), e]
  rw [hpi]
theorem shape_num {l D : List UInt8} {n : Int} (h : Shape l D n) (h0 : -9223372036854775808 ≤ n) (h1 : n ≤ 9223372036854775807) : numL l = some (2, [], n, true) := by
  by_cases hl : D.length ≤ 18
  · unfold numL
    rw [shape_small h hl]
  · exact shape_big h (by omega) h0 h1
theorem shape_head {l D : List UInt8} {n : Int} (h : Shape l D n) : ∃ c r, l = c :: r ∧ c.toNat < 58 := by
  obtain ⟨c, r, hD, hc, _⟩ := dig_head h.ne h.all
  rw [dig_iff] at hc
  rcases h.cases' with ⟨rfl, _⟩ | ⟨rfl, _⟩
  · exact ⟨c, r, hD, by omega⟩
  · exact ⟨45, D, rfl, by decide⟩
theorem atom_itoa (n : Int) (h0 : -9223372036854775808 ≤ n) (h1 : n ≤ 9223372036854775807) : atomL (itoa n) = some (2, [], n, true) := by
  obtain ⟨D, h⟩ := shape_itoa n
  obtain ⟨c, r, e, hc⟩ := shape_head h
  have hcond := shape_cond h
  have hnum := shape_num h h0 h1
  unfold atomL
  rw [e] at hcond hnum ⊢
  have k : ∀ (d : UInt8) (t : List UInt8), 58 ≤ d.toNat → ¬ c :: r = d :: t := fun d t hd he => by
    have := (List.cons.inj he).1
    rw [this] at hc; omega
  rw [if_neg (k _ _ (by decide)), if_neg (fun he => he.elim (k _ _ (by decide)) (k _ _ (by decide))), if_neg, if_pos hcond, hnum]
  intro hh
  simp only [List.head?_cons, Option.some.injEq] at hh
  rw [hh] at hc
  exact absurd hc (by decide)
theorem itoa_ne (n : Int) : itoa n ≠ [] := by
  obtain ⟨D, h⟩ := shape_itoa n
  obtain ⟨c, r, e, _⟩ := shape_head h
  rw [e]; simp

/-! ### what a number can be -/
theorem parse_bounds {l : List UInt8} {n : Int} (h : parseIntB 64 l = .ok n) : -9223372036854775808 ≤ n ∧ n ≤ 9223372036854775807 := by
  unfold parseIntB at h
  split at h
  · cases h
  · simp only at h
    split at h
    · cases h
    · cases h
    · split at h
      · cases h
      · rename_i h1
        split at h
        · cases h
        · rename_i h2
          cases h
          have p63 : 2 ^ (64 - 1) = 9223372036854775808 := by decide
          rw [p63] at h1 h2
          split <;> omega
theorem small_bounds {l : List UInt8} {n : Int} (h : smallL l = some n) : -9223372036854775808 ≤ n ∧ n ≤ 9223372036854775807 := by
  unfold smallL at h
  split at h
  · cases h
  · rename_i hc
    split at h
    · rename_i ha
      have hv := valFrom_lt (body l) ha
      have hl : (body l).length ≤ 18 := by omega
      have hp : 10 ^ (body l).length ≤ 10 ^ 18 := Nat.pow_le_pow_right (by decide) hl
      have p18 : 10 ^ 18 = 1000000000000000000 := by decide
      cases h
      split <;> omega
    · cases h
/-- A number that reads: an integer that fits, or its own text. -/
theorem num_forms {l : List UInt8} {f : Form} (h : numL l = some f) : (∃ n, f = (2, [], n, true) ∧ -9223372036854775808 ≤ n ∧ n ≤ 9223372036854775807) ∨ f = (2, l, 0, false) ∨ f = (3, l, 0, false) := by
  unfold numL at h
  split at h
  · rename_i n hs
    cases h
    exact .inl ⟨n, rfl, small_bounds hs⟩
  · split at h
    · cases h
    · unfold numTail at h
      split at h
      · cases h
      · split at h
        · split at h
          · rename_i n hp
            cases h
            exact .inl ⟨n, rfl, parse_bounds hp⟩
          · cases h; exact .inr (.inl rfl)
          · cases h
        · split at h
          · cases h; exact .inr (.inr rfl)
          · split at h
            · cases h; exact .inr (.inr rfl)
            · cases h

/-- THE LAW: what an atom reads as, written out, reads as the same. -/
theorem trip {l : List UInt8} (hne : l ≠ []) {f : Form} (h : atomL l = some f) : writeL f ≠ [] ∧ atomL (writeL f) = some f := by
  have own : writeL f = l → writeL f ≠ [] ∧ atomL (writeL f) = some f := fun e => by rw [e]; exact ⟨hne, h⟩
  unfold atomL at h
  split at h
  · cases h; exact ⟨by decide, by decide⟩
  · split at h
    · cases h; exact own rfl
    · split at h
      · rename_i hh
        split at h
        · cases h
        · cases h
          apply own
          cases l with
          | nil => exact absurd rfl hne
          | cons c r =>
            simp only [List.head?_cons, Option.some.injEq] at hh
            rw [hh]; rfl
      · split at h
        · rcases num_forms h with ⟨n, rfl, h0, h1⟩ | rfl | rfl
          · exact ⟨itoa_ne n, atom_itoa n h0 h1⟩
          · exact own rfl
          · exact own rfl
        · cases h; exact own rfl
end Go.Proofs.Qxb6613685aGreatFmt
