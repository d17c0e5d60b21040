/-
  The plain side: a text cut behind each newline; its last five pieces joined; the text behind its fifth newline from the end. No run of the model here.
-/
import Derived.Lib.SplitLaws
import Derived.Lib.IndexBytes
import Derived.Lib.Join
namespace Go.Proofs.Qxb6612424aDoor
open Go.Lib

/-- A text cut behind each newline. -/
def pieces : List UInt8 → List (List UInt8)
  | [] => [[]]
  | c :: l => if c = 10 then [c] :: pieces l else ((c :: (pieces l).headD []) :: (pieces l).tail)

theorem pieces_cons (c : UInt8) (l : List UInt8) : pieces (c :: l) = if c = 10 then [c] :: pieces l else ((c :: (pieces l).headD []) :: (pieces l).tail) := rfl
theorem pieces_ne : ∀ l, pieces l ≠ []
  | [] => by simp [pieces]
  | c :: l => by unfold pieces; split <;> simp
theorem pieces_flat : ∀ l, (pieces l).flatten = l
  | [] => rfl
  | c :: l => by
    have ih := pieces_flat l
    have hne := pieces_ne l
    unfold pieces
    split
    · rw [List.flatten_cons, ih]; rfl
    · cases h : pieces l with
      | nil => exact absurd h hne
      | cons p ps => rw [h] at ih; simp at ih ⊢; exact ih
theorem pieces_length : ∀ l : List UInt8, (pieces l).length = l.count 10 + 1
  | [] => rfl
  | c :: l => by
    have ih := pieces_length l
    unfold pieces
    split
    · rename_i h; subst h; simp [ih]
    · rename_i h
      rw [List.count_cons_of_ne h]
      simp [ih]
/-- Behind a newline the cutting begins anew. -/
theorem pieces_append : ∀ a b : List UInt8, ∃ P, pieces (a ++ 10 :: b) = P ++ pieces b
  | [], b => ⟨[[10]], by simp [pieces]⟩
  | c :: a, b => by
    obtain ⟨P, h⟩ := pieces_append a b
    rw [List.cons_append, pieces_cons]
    split
    · exact ⟨[c] :: P, by rw [h]; rfl⟩
    · cases P with
      | nil =>
        exfalso
        have h1 := pieces_length (a ++ 10 :: b)
        have h2 := pieces_length b
        rw [h] at h1
        simp at h1 h2
        omega
      | cons p ps => exact ⟨(c :: p) :: ps, by rw [h]; rfl⟩

/-- The last five pieces, joined. -/
def tailOf (l : List UInt8) : List UInt8 := ((pieces l).drop ((pieces l).length - 5)).flatten
theorem tail_few {l : List UInt8} (h : l.count 10 ≤ 4) : tailOf l = l := by
  unfold tailOf
  rw [pieces_length, show l.count 10 + 1 - 5 = 0 by omega, List.drop_zero, pieces_flat]
theorem tail_many (a b : List UInt8) (h : b.count 10 = 4) : tailOf (a ++ 10 :: b) = b := by
  obtain ⟨P, hP⟩ := pieces_append a b
  have hl := pieces_length b
  unfold tailOf
  rw [hP, List.length_append, hl, h, show P.length + (4 + 1) - 5 = P.length by omega, List.drop_left, pieces_flat]
/-- Where there are five newlines, the fifth from the end is somewhere. -/
theorem fifth : ∀ l : List UInt8, 5 ≤ l.count 10 → ∃ a b, l = a ++ 10 :: b ∧ b.count 10 = 4
  | [], h => by simp at h
  | c :: l, h => by
    by_cases hc : c = 10
    · subst hc
      by_cases h5 : 5 ≤ l.count 10
      · obtain ⟨a, b, rfl, hb⟩ := fifth l h5
        exact ⟨10 :: a, b, rfl, hb⟩
      · exact ⟨[], l, rfl, by simp at h; omega⟩
    · rw [List.count_cons_of_ne hc] at h
      obtain ⟨a, b, rfl, hb⟩ := fifth l h
      exact ⟨c :: a, b, rfl, hb⟩

theorem splitK_miss (k : Nat) (l : List UInt8) (h : index l [10] = -1) : splitK [10] 1 k l = [l] := by
  cases k with
  | zero => rfl
  | succ k => unfold splitK; rw [if_pos (by rw [h]; rfl)]
theorem splitK_hit (k : Nat) (l : List UInt8) (j : Nat) (h : index l [10] = j) : splitK [10] 1 (k + 1) l = l.take (j + 1) :: splitK [10] 1 k (l.drop (j + 1)) := by
  show (if index l [10] == -1 then [l] else l.take ((index l [10]).toNat + 1) :: splitK [10] 1 k (l.drop ((index l [10]).toNat + [(10 : UInt8)].length))) = _
  rw [h, if_neg (fun e => by have := beq_iff_eq.1 e; omega)]
  rfl
theorem index_none : ∀ l : List UInt8, l.count 10 = 0 → index l [10] = -1
  | [], _ => rfl
  | c :: l, h => by
    by_cases hc : c = 10
    · subst hc; simp at h
    · rw [List.count_cons_of_ne hc] at h
      have ih := index_none l h
      have hp : [(10 : UInt8)].isPrefixOf (c :: l) = false := by simp [List.isPrefixOf]; exact fun e => hc e.symm
      show (if [(10 : UInt8)].isPrefixOf (c :: l) then (0 : Int) else if index l [10] == -1 then -1 else index l [10] + 1) = -1
      rw [hp, if_neg (by simp), ih]; rfl

/-- strings.SplitAfter's pieces at a newline. -/
theorem split_pieces : ∀ l : List UInt8, splitK [10] 1 (l.count 10) l = pieces l
  | [] => rfl
  | c :: l => by
    have ih := split_pieces l
    by_cases hc : c = 10
    · subst hc
      have hi : index (10 :: l) [10] = ((0 : Nat) : Int) := by rw [index]; simp [List.isPrefixOf]
      rw [List.count_cons_self, splitK_hit _ _ 0 hi]
      simp [pieces, ih]
    · rw [List.count_cons_of_ne hc]
      have hp : [(10 : UInt8)].isPrefixOf (c :: l) = false := by simp [List.isPrefixOf]; exact fun e => hc e.symm
      have hx : index (c :: l) [10] = if index l [10] == -1 then -1 else index l [10] + 1 := by rw [index, hp]; simp
      unfold pieces
      rw [if_neg hc, ← ih]
      by_cases hm : index l [10] = -1
      · rw [splitK_miss _ _ hm, splitK_miss _ _ (by rw [hx, hm]; rfl)]
        rfl
      · have hge := index_ge l [10]
        obtain ⟨j, hj⟩ : ∃ j : Nat, index l [10] = j := ⟨(index l [10]).toNat, by omega⟩
        have hj' : index (c :: l) [10] = ((j + 1 : Nat) : Int) := by rw [hx, if_neg (fun e => hm (beq_iff_eq.1 e)), hj]; omega
        obtain ⟨k, hk⟩ : ∃ k, l.count 10 = k + 1 := by
          cases h : l.count 10 with
          | zero => exact absurd (index_none l h) hm
          | succ k => exact ⟨k, rfl⟩
        rw [hk, splitK_hit _ _ _ hj, splitK_hit _ _ _ hj']
        rfl

/-- The newlines of the last n bytes: what the walk from the end has seen. -/
def nl (l : List UInt8) (k : Nat) : Nat := (l.drop k).count 10
theorem nl_end (l : List UInt8) : nl l l.length = 0 := by simp [nl]
theorem nl_step (l : List UInt8) (k : Nat) (h : k < l.length) : nl l k = nl l (k + 1) + if l[k] = 10 then 1 else 0 := by
  unfold nl
  rw [List.drop_eq_getElem_cons h, List.count_cons]
  simp
theorem tail_at (l : List UInt8) (k : Nat) (h : k < l.length) (hc : l[k] = 10) (hn : nl l (k + 1) = 4) : tailOf l = l.drop (k + 1) := by
  have e : l = l.take k ++ 10 :: l.drop (k + 1) := by
    rw [← hc, ← List.drop_eq_getElem_cons h, List.take_append_drop]
  have := tail_many (l.take k) (l.drop (k + 1)) hn
  rwa [← e] at this
theorem nl_zero (l : List UInt8) : nl l 0 = l.count 10 := by simp [nl]

theorem flat_join (xs : List (List UInt8)) : Lib.join xs [] = xs.flatten := by
  cases xs with
  | nil => rfl
  | cons x r => rw [join_cons, List.flatten_cons]; congr 1; simp [joinTail]
end Go.Proofs.Qxb6612424aDoor
