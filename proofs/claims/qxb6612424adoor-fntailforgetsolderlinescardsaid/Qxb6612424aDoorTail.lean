/-
  The walk of (*logTail).tail.
-/
import Derived.Test.Qxb6612424aDoorLay
import Derived.Test.Qxb6612424aDoorWalk2
namespace Go.Proofs.Qxb6612424aDoor
open Go.RowKit
open Go.Lib hiding intOf

theorem hideP {p : Prop} (h : p) : Hid p := h
def newline : ByteArray := ⟨#[10]⟩
theorem newline_data : newline.data.toList = [10] := rfl

/-- How many newlines. -/
def nls (s : ByteArray) : Nat := s.data.toList.count 10
/-- The pieces as strings. -/
def cuts (s : ByteArray) : List ByteArray := splitB newline 1 (nls s) s
theorem cuts_data (s : ByteArray) : (cuts s).map (·.data.toList) = pieces s.data.toList := by
  unfold cuts nls
  rw [splitB_data, newline_data, split_pieces]
theorem cuts_length (s : ByteArray) : (cuts s).length = nls s + 1 := by
  have := congrArg List.length (cuts_data s)
  rwa [List.length_map, pieces_length] at this
theorem count_newline (s : ByteArray) : countB s newline = nls s := count_one 10 s.data.toList
theorem count_size (s : ByteArray) : nls s ≤ s.size := by
  unfold nls
  have := List.count_le_length (a := (10 : UInt8)) (l := s.data.toList)
  simpa using this

theorem genSplit_newline (s : ByteArray) (w : World) (hs : s.size ≤ 131072) :
    Calls Tryd.prog 16 #[.string s, .string ⟨#[10]⟩, .int .i64 1, .int .i64 (-1)] w fun e w' =>
      e = .returned (.slice (some ⟨w.heap.size, 0, none⟩) (nls s + 1) (nls s + 1)) ∧ w' = w.alloc (.cells ((cuts s).map Value.string).toArray 9) := by
  have hcs := count_size s
  have h := Any.strings_genSplit_core Tryd.laysSplit (by kernel_rfl) s newline 1 (-1) (nls s + 1) w (by omega) (by decide) (by decide)
    (fun x c hx => (Any.strings_Index_one { Tryd.laysSplit with } x 10 _).mono fun e w' ⟨he, hw⟩ => ⟨by rw [he]; exact ret_int (Lib.index_one x.data.toList 10).symm, hw⟩)
    ((Any.strings_Count_one { Tryd.laysSplit with } s 10 w).mono fun e w' ⟨he, hw⟩ => ⟨by rw [he, count_newline]; rfl, hw⟩)
    (by decide) (by decide) (by rw [count_newline]; simp; omega)
  refine h.mono fun e w' ⟨he, hw⟩ => ?_
  have e1 : splitB newline 1 (nls s + 1 - 1) s = cuts s := rfl
  rw [e1] at he hw
  rw [cuts_length] at he
  refine ⟨he, ?_⟩
  rw [hw]
  unfold Lib.cellsOf
  rw [cuts_length, Nat.sub_self, List.replicate_zero, List.append_nil]
  rfl

theorem splitAfter_newline (s : ByteArray) (w : World) (hs : s.size ≤ 131072) :
    Calls Tryd.prog 14 #[.string s, .string ⟨#[10]⟩] w fun e w' =>
      e = .returned (.slice (some ⟨w.heap.size, 0, none⟩) (nls s + 1) (nls s + 1)) ∧ w' = w.alloc (.cells ((cuts s).map Value.string).toArray 9) := by
  go_enter Tryd.func14, Tryd.ntmps14
  go_wp2_with (go_at_call 16; refine (genSplit_newline s w hs).mono ?_; rintro e w' ⟨rfl, rfl⟩)
  go_ret
  exact ⟨rfl, rfl⟩

theorem join_any (bk o c : Nat) (xs : List ByteArray) (w : World) (hcells : ∀ (j : Nat) x, xs[j]? = some x → w.cell? ⟨bk, o + j, none⟩ = some (.string x))
    (hbk : bk < w.heap.size) (hN : xs.length ≤ 131073) (hcap : xs.length ≤ c) (hlen : ((xs.map (·.data.toList)).flatten).length ≤ 131072) :
    Calls Tryd.prog 15 #[.slice (some ⟨bk, o, none⟩) xs.length c, .string ⟨#[]⟩] w fun e w' => e = .returned (.string ⟨((xs.map (·.data.toList)).flatten).toArray⟩) ∧ Below w.heap.size w w' := by
  have h := Any.strings_Join Tryd.laysJoin Tryd.joinExtra bk o c xs ⟨#[]⟩ w hcells hbk (by omega) hcap (by rw [flat_join]; omega)
  rwa [flat_join] at h

theorem cuts_cell (s : ByteArray) (w : World) (j : Nat) (x : ByteArray) (M : Nat) (h : ((cuts s).drop M)[j]? = some x) :
    (w.alloc (.cells ((cuts s).map Value.string).toArray 9)).cell? ⟨w.heap.size, M + j, none⟩ = some (.string x) := by
  rw [List.getElem?_drop] at h
  have hg : ((cuts s).map Value.string).toArray[M + j]? = some (.string x) := by rw [List.getElem?_toArray, List.getElem?_map, h]; rfl
  go_simp
theorem cuts_flat (s : ByteArray) (M : Nat) : (((cuts s).drop M).map (·.data.toList)).flatten.length ≤ s.size := by
  have h : (((cuts s).take M).map (·.data.toList)).flatten ++ (((cuts s).drop M).map (·.data.toList)).flatten = s.data.toList := by
    rw [← List.flatten_append, ← List.map_append, List.take_append_drop, cuts_data, pieces_flat]
  have h2 := congrArg List.length h
  rw [List.length_append] at h2
  have h3 : s.data.toList.length = s.size := by simp
  omega
theorem cuts_tail (s : ByteArray) (M : Nat) (h : M = nls s + 1 - 5) : (⟨((((cuts s).drop M).map (·.data.toList)).flatten).toArray⟩ : ByteArray) = tailB s := by
  unfold tailB tailOf
  rw [List.map_drop, cuts_data, pieces_length, h]
  rfl

/-- (*logTail).tail, the slice that it holds being read as s. -/
theorem tail_walk (s : ByteArray) (v : Value) (p : Nat) (w : World) (hs : s.size ≤ 131072) (hp : w.cell? ⟨p, 0, none⟩ = some v)
    (hv : (convert 22 9 v).run Tryd.prog w = .ok (.string s) w) :
    Calls Tryd.prog 13 #[.pointer (some ⟨p, 0, none⟩)] w fun e w' => e = .returned (.string (tailB s)) ∧ Below w.heap.size w w' := by
  have hcs := count_size s
  obtain ⟨N, hN⟩ : ∃ N, nls s + 1 = N := ⟨_, rfl⟩
  obtain ⟨M, hM⟩ : ∃ M, N - 5 = M := ⟨_, rfl⟩
  have hsp := splitAfter_newline s w hs
  rw [hN] at hsp
  have hNs : (N : Int) ≤ 131073 := by omega
  have hN0 : (1 : Int) ≤ (N : Int) := by omega
  have hmax : max 0 ((N : Int) - 5) = (M : Int) := by omega
  have hMN : ¬ N = M := by omega
  have hMl : M ≤ N := by omega
  have hj := join_any w.heap.size M (N - M) ((cuts s).drop M) (w.alloc (.cells ((cuts s).map Value.string).toArray 9)) (fun j x h => cuts_cell s w j x M h) (by simp) (by rw [List.length_drop, cuts_length]; omega) (by rw [List.length_drop, cuts_length]; omega) (by have := cuts_flat s M; omega)
  rw [List.length_drop, cuts_length, hN, cuts_tail s M (by omega)] at hj
  have Hj := hideP hj
  have Hsp := hideP hsp
  clear hsp hj hN hM hcs
  go_enter Tryd.func13, Tryd.ntmps13
  go_wp2_with (first
    | (go_at_call 14; refine Hsp.out.mono ?_; rintro e w' ⟨rfl, rfl⟩)
    | (go_at_call 15; refine Hj.out.mono ?_; rintro e w' ⟨rfl, hb⟩))
  go_ret
  exact ⟨rfl, ((Below.refl _ _).alloc (Nat.le_refl _) _).trans (hb.mono (by simp))⟩

theorem zztail_walk (s : ByteArray) (v : Value) (p : Nat) (w : World) (hs : s.size ≤ 131072) (hp : w.cell? ⟨p, 0, none⟩ = some v)
    (hv : (convert 22 9 v).run Tryd.prog w = .ok (.string s) w) :
    Calls Tryd.prog 8 #[.pointer (some ⟨p, 0, none⟩)] w fun e w' => e = .returned (.string (tailB s)) ∧ Below w.heap.size w w' := by
  have H := hideP (tail_walk s v p w hs hp hv)
  clear hv hp
  go_enter Tryd.func8, Tryd.ntmps8
  go_wp2_with (go_at_call 13; refine H.out.mono ?_; rintro e w' ⟨rfl, hb⟩)
  go_ret
  exact ⟨rfl, hb⟩
end Go.Proofs.Qxb6612424aDoor
