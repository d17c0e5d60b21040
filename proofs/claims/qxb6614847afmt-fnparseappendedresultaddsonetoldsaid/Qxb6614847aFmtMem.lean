/-
  What lies in memory for the results read so far: a row of results, each with its map.
-/
import Derived.Test.Qxb6614847aFmtPva
import Derived.Maps.OwnSet
import Derived.Maps.StringElems
namespace Go.Proofs.Qxb6614847aFmt
open Go.RowKit Go.Extern.Stop Go.Stop Go.Extern Go.Maps

theorem Tryf.info34 : (Tryf.prog.info? 34).map (fun i => (i.zero, i.size, i.bytes)) = some (some (.agg #[.string ⟨#[]⟩, .string ⟨#[]⟩, .map none]), 3, 40) := by kernel_rfl
theorem keyLaw : Keyed Tryf.prog 9 := string_keyed Tryf.underlying9
theorem zero9 (w : World) : (zeroValue 9).run Tryf.prog w = .ok (.string ⟨#[]⟩) w := by kernel_rfl
/-- The properties as a map's datum. -/
def dat (ps : Props) : DataW Unit := ps.foldl (fun D p => D.put (.string p.1) (.lit (.string p.2))) (.map [])
def MapAt (w : World) (M : Nat) (ps : Props) : Prop := w.ownsMap (H := Unit) Tryf.prog 9 (plainElem Tryf.prog 9) M ps.length (dat ps)
theorem MapAt.kept {w w' : World} {M : Nat} {ps : Props} {row : Option Nat} (h : MapAt w M ps) (hg : w.grownBy w' row) (hne : some M ≠ row) : MapAt w' M ps := World.ownsMap.kept h hg hne
theorem MapAt.lt {w : World} {M : Nat} {ps : Props} (h : MapAt w M ps) : M < w.heap.size := World.ownsMap.lt h
theorem MapAt.made (w : World) : MapAt (w.alloc (.map #[] 0)) w.heap.size [] := World.ownsMap_made w _ _ _
def cells3 (r : Res) (M : Nat) : List Value := [.string ⟨r.1.toArray⟩, .string ⟨r.2.1.toArray⟩, .map (some M)]
def flat : List Res → List Nat → List Value
  | r :: rs, M :: Ms => cells3 r M ++ flat rs Ms
  | _, _ => []
theorem flat_append (r : Res) (M : Nat) : ∀ (rs : List Res) (Ms : List Nat), rs.length = Ms.length → flat (rs ++ [r]) (Ms ++ [M]) = flat rs Ms ++ cells3 r M
  | [], [], _ => rfl
  | _ :: rs, _ :: Ms, h => by
    have ih := flat_append r M rs Ms (by simpa using h)
    show cells3 _ _ ++ flat (rs ++ [r]) (Ms ++ [M]) = (cells3 _ _ ++ flat rs Ms) ++ cells3 r M
    rw [ih, List.append_assoc]
theorem flat_length : ∀ (rs : List Res) (Ms : List Nat), rs.length = Ms.length → (flat rs Ms).length = rs.length * 3
  | [], [], _ => rfl
  | _ :: rs, _ :: Ms, h => by
    have ih := flat_length rs Ms (by simpa using h)
    show (cells3 _ _ ++ flat rs Ms).length = (rs.length + 1) * 3
    rw [List.length_append, ih]
    show 3 + _ = _
    omega
/-- The results read so far. -/
structure RowsAt (base : Nat) (w : World) (sv : Value) (acc : List Res) (Ms : List Nat) : Prop where
  len : acc.length = Ms.length
  row : w.ownsRow base 34 3 sv acc.length (flat acc Ms)
  maps : ∀ (t : Nat) (r : Res) (M : Nat), acc[t]? = some r → Ms[t]? = some M → MapAt w M r.2.2
  above : ∀ M ∈ Ms, base ≤ M
theorem RowsAt.nil (base : Nat) (w : World) : RowsAt base w (.slice none 0 0) [] [] :=
  ⟨rfl, World.ownsRow_nil _ _ _ _, fun t r M h => by simp at h, fun M h => by simp at h⟩
theorem RowsAt.kept {base : Nat} {w w' : World} {sv : Value} {acc : List Res} {Ms : List Nat} {row : Option Nat} (h : RowsAt base w sv acc Ms) (hg : w.grownBy w' row) (hr : ∀ k, row = some k → k < base) : RowsAt base w' sv acc Ms := by
  refine ⟨h.len, h.row.kept hg ?_, fun t r M h1 h2 => (h.maps t r M h1 h2).kept hg ?_, h.above⟩
  · cases hv : sv.ownBlock with
    | none => exact Or.inl rfl
    | some k =>
      right
      intro e
      have h1 := (h.row.lt k hv).1
      have h2 := hr k e.symm
      omega
  · intro e
    have h3 := h.above M (List.mem_of_getElem? h2)
    have h4 := hr M e.symm
    omega
theorem map_ne_row {w : World} {M : Nat} {ps : Props} {base n : Nat} {e : TypeId} {size : Nat} {v : Value} {xs : List Value} (h : MapAt w M ps) (hr : w.ownsRow base e size v n xs) : some M ≠ v.ownBlock := by
  obtain ⟨es, clock, hb, _⟩ := h
  rcases hr.2 with ⟨rfl, _⟩ | ⟨g, cap, cur, rfl, _, hg, _⟩
  · simp [Value.ownBlock]
  · intro e
    simp only [Value.ownBlock, Option.some.injEq] at e
    subst e
    rw [hb] at hg
    cases hg
theorem RowsAt.append {base : Nat} {w w' : World} {sv v' : Value} {acc : List Res} {Ms : List Nat} {r : Res} {M : Nat} (h : RowsAt base w sv acc Ms) (hM : MapAt w M r.2.2) (hb : base ≤ M) (hg : w.grownBy w' sv.ownBlock) (ho : w'.ownsRow base 34 3 v' (acc.length + 1) (flat acc Ms ++ cells3 r M)) : RowsAt base w' v' (acc ++ [r]) (Ms ++ [M]) := by
  refine ⟨by rw [List.length_append, List.length_append, h.len]; rfl, ?_, ?_, ?_⟩
  · rw [flat_append r M _ _ h.len, List.length_append]; exact ho
  · intro t r1 M1 h1 h2
    by_cases ht : t < acc.length
    · rw [List.getElem?_append_left ht] at h1
      rw [List.getElem?_append_left (by rw [← h.len]; exact ht)] at h2
      have hm := h.maps t r1 M1 h1 h2
      exact hm.kept hg (map_ne_row hm h.row)
    · rw [List.getElem?_append_right (by omega)] at h1
      rw [List.getElem?_append_right (by rw [← h.len]; omega), ← h.len] at h2
      by_cases h0 : t - acc.length = 0
      · rw [h0] at h1 h2
        simp at h1 h2
        subst h1 h2
        exact hM.kept hg (map_ne_row hM h.row)
      · rw [List.getElem?_eq_none (by simp; omega)] at h1; cases h1
  · intro M1 h1
    rcases List.mem_append.mp h1 with h1 | h1
    · exact h.above M1 h1
    · simp at h1; subst h1; exact hb
/-! ### the map's laws -/
theorem dat_isMap (ps : Props) : IsMap (dat ps) := by
  unfold dat
  have : ∀ (ps : Props) (D : DataW Unit), IsMap D → IsMap (ps.foldl (fun D p => D.put (.string p.1) (.lit (.string p.2))) D) := by
    intro ps
    induction ps with
    | nil => exact fun D h => h
    | cons p ps ih => exact fun D h => ih _ (by obtain ⟨es, rfl⟩ := h; exact ⟨_, rfl⟩)
  exact this ps _ ⟨[], rfl⟩
theorem dat_append (ps : Props) (k v : List UInt8) : dat (ps ++ [(k, v)]) = (dat ps).put (.string k) (.lit (.string v)) := by
  unfold dat
  rw [List.foldl_append]
  rfl
theorem dat_has (k : List UInt8) (ps : Props) : has (dat ps) (.string k) = (ps.map (·.1)).contains k := by
  have : ∀ (qs : Props), has (dat qs.reverse) (.string k) = (qs.map (·.1)).contains k := by
    intro qs
    induction qs with
    | nil => rfl
    | cons p qs ih =>
      rw [List.reverse_cons, show qs.reverse ++ [p] = qs.reverse ++ [(p.1, p.2)] from rfl, dat_append, List.map_cons, List.contains_cons]
      by_cases e : k = p.1
      · subst e
        rw [has_put_same (dat_isMap _) (by exact trivial), beq_self_eq_true, Bool.true_or]
      · rw [has_put_other (fun h => e (by injection h)), ih]
        have : (k == p.1) = false := by simpa using e
        rw [this, Bool.false_or]
  have h := this ps.reverse
  rw [List.reverse_reverse] at h
  rw [h, List.map_reverse, List.contains_reverse]
end Go.Proofs.Qxb6614847aFmt
