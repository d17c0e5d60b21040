/-
  The plain side, more: ParseInt never refuses the form on number's road.
-/
import Derived.Test.Qxb6613685aGreatFmtTrip
namespace Go.Proofs.Qxb6613685aGreatFmt
open Go.Lib

/-- Neither refused for its form. -/
def fine {α : Type} (p : NumEnd α) : Bool := match p with
  | .ok _ => true
  | .range => true
  | _ => false
theorem fine_ends {α : Type} {p : NumEnd α} (h : fine p = true) : (∃ n, p = .ok n) ∨ p = .range := by
  cases p <;> simp_all [fine]
theorem uint_good {D : List UInt8} (hne : D ≠ []) (h : D.all dig = true) : (∃ u, parseUintB 64 D = .ok u) ∨ parseUintB 64 D = .range := by
  unfold parseUintB
  rw [if_neg hne]
  exact parse_ends (2 ^ 64 - 1) D 0 h
theorem fine_ite {α : Type} {c : Prop} [Decidable c] {p q : NumEnd α} (hp : fine p = true) (hq : fine q = true) : fine (if c then p else q) = true := by
  split
  · exact hp
  · exact hq
theorem int_plain {D : List UInt8} (hne : D ≠ []) (h : D.all dig = true) : fine (parseIntB 64 D) = true := by
  obtain ⟨c, r, hD, hc, _⟩ := dig_head hne h
  have hu := uint_good hne h
  rw [dig_iff] at hc
  rw [hD] at hu ⊢
  unfold parseIntB
  simp only
  rw [if_neg (by omega)]
  rcases hu with ⟨u, hu⟩ | hu
  · rw [hu]
    exact fine_ite rfl (fine_ite rfl rfl)
  · rw [hu]; rfl
theorem int_sign {c : UInt8} {D : List UInt8} (hc : c.toNat = 43 ∨ c.toNat = 45) (hne : D ≠ []) (h : D.all dig = true) : fine (parseIntB 64 (c :: D)) = true := by
  have hu := uint_good hne h
  unfold parseIntB
  simp only
  rw [if_pos hc]
  rcases hu with ⟨u, hu⟩ | hu
  · rw [hu]
    exact fine_ite rfl (fine_ite rfl rfl)
  · rw [hu]; rfl
theorem not_dig_sign {c : UInt8} (hc : c.toNat = 43 ∨ c.toNat = 45) : dig c = false := by
  cases h : dig c with
  | false => rfl
  | true => rw [dig_iff] at h; omega
theorem suffix_gone (l : List UInt8) : trimSuffix (l ++ [78]) [78] = l := by
  unfold trimSuffix
  rw [if_pos (by unfold hasSuffix; rw [List.isSuffixOf_iff_suffix]; exact List.suffix_append _ _)]
  simp
theorem parse_good {l : List UInt8} (hc : numCond l = true) (h1 : ¬ (trimLeftS l signs).length + 1 < l.length) (h2 : trimLeftS (trimLeftS l signs) digs = [] ∨ trimLeftS (trimLeftS l signs) digs = [78]) :
    (∃ n, parseIntB 64 (trimSuffix l [78]) = .ok n) ∨ parseIntB 64 (trimSuffix l [78]) = .range := by
  apply fine_ends
  obtain ⟨P, hP⟩ : ∃ P, l.takeWhile (signs.contains ·) = P := ⟨_, rfl⟩
  obtain ⟨d, hd⟩ : ∃ d, trimLeftS l signs = d := ⟨_, rfl⟩
  obtain ⟨Q, hQ⟩ : ∃ Q, d.takeWhile (digs.contains ·) = Q := ⟨_, rfl⟩
  obtain ⟨T, hT⟩ : ∃ T, trimLeftS d digs = T := ⟨_, rfl⟩
  have e1 : P ++ d = l := by rw [← hP, ← hd]; exact List.takeWhile_append_dropWhile
  have e2 : Q ++ T = d := by rw [← hQ, ← hT]; exact List.takeWhile_append_dropWhile
  rw [hd, hT] at h2
  rw [hd, ← e1, List.length_append] at h1
  have hPl : P.length ≤ 1 := by omega
  have hPs : ∀ c ∈ P, c.toNat = 43 ∨ c.toNat = 45 := fun c hm => by
    rw [← hP] at hm
    have := List.all_takeWhile (l := l) (p := (signs.contains ·))
    rw [List.all_eq_true] at this
    exact (signs_has c).mp (this c hm)
  have hQd : Q.all dig = true := by
    rw [List.all_eq_true]
    intro c hm
    rw [← hQ] at hm
    have := List.all_takeWhile (l := d) (p := (digs.contains ·))
    rw [List.all_eq_true] at this
    rw [← digs_has]
    exact this c hm
  have hQn : Q ≠ [] := by
    intro hq
    rw [hq, List.nil_append] at e2
    rw [← e2] at e1
    rw [← e1] at hc
    match P, hPl, hPs with
    | [], _, _ => rcases h2 with h2 | h2 <;> rw [h2] at hc <;> revert hc <;> decide
    | [c], _, hPs =>
      have hcs := hPs c (List.mem_cons_self ..)
      have := not_dig_sign hcs
      rcases h2 with h2 | h2
      · rw [h2] at hc
        simp [numCond, this] at hc
      · rw [h2] at hc
        simp [numCond, this] at hc
        exact absurd hc.2 (by decide)
    | _ :: _ :: _, h, _ => simp at h
  have hsuf : trimSuffix l [78] = P ++ Q := by
    rw [← e1, ← e2]
    rcases h2 with h2 | h2
    · rw [h2, List.append_nil]
      apply suffix_keep
      intro c hcl
      rw [List.getLast?_append, List.getLast?_eq_some_getLast hQn, Option.some_or] at hcl
      exact last_dig hQd c (by rw [List.getLast?_eq_some_getLast hQn]; exact hcl)
    · rw [h2, ← List.append_assoc]
      exact suffix_gone _
  rw [hsuf]
  match P, hPl, hPs with
  | [], _, _ => exact int_plain hQn hQd
  | [c], _, hPs => exact int_sign (hPs c (List.mem_cons_self ..)) hQn hQd
  | _ :: _ :: _, h, _ => simp at h
end Go.Proofs.Qxb6613685aGreatFmt
