/-
  The small walks: cloneBytes, ZZnewLogTail.
-/
import Derived.Test.Qxb6612424aDoorProg
import Derived.Lib.SlBytesRow
import Derived.Lib.SliceRun
import Derived.WalkKit
import Derived.WalkSpells
import Derived.WalkLawsBesides
import Derived.Below
import Derived.Handy
namespace Go.Proofs.Qxb6612424aDoor
open Go.RowKit
open Go.Lib hiding intOf

theorem nil_some (a : Addr) (n c : Nat) (W : World) : (binOp .eql 22 (.slice (some a) n c) (.slice none 0 0)).run Tryd.prog W = .ok (.bool false) W :=
  Go.Lib.run_eql_slice_nil W 22 5 (some a) n c 0 0 Tryd.underlying22
theorem nil_none (n c : Nat) (W : World) : (binOp .eql 22 (.slice none n c) (.slice none 0 0)).run Tryd.prog W = .ok (.bool true) W :=
  Go.Lib.run_eql_slice_nil W 22 5 none n c 0 0 Tryd.underlying22

theorem clone_nil (n c : Nat) (w : World) : Calls Tryd.prog 6 #[.slice none n c] w fun e w' => e = .returned (.slice none 0 0) ∧ w' = w := by
  have hq := nil_none n c
  go_enter Tryd.func6, Tryd.ntmps6
  go_wp2
  go_ret
  exact ⟨rfl, rfl⟩

/-- The cells of a new row of s.size bytes, the first k laid. -/
def bc (s : ByteArray) (k : Nat) : Array Value := ((s.data.toList.take k).map (fun x => Value.int .u8 (x.toNat : Int)) ++ List.replicate (s.size - k) (Value.int .u8 0)).toArray
theorem bc_size (s : ByteArray) (k : Nat) (h : k ≤ s.size) : (bc s k).size = s.size := by simp [bc]; omega
theorem bc_zero (s : ByteArray) : bc s 0 = madeCells #[.int .u8 0] s.size := by
  apply Array.ext
  · simp [bc, madeCells]
  · intro i h1 h2
    simp [bc, madeCells, Nat.mod_one]
theorem bc_next (s : ByteArray) (k : Nat) (h : k < s.size) : (bc s k)[k]? = some (.int .u8 0) := by
  unfold bc
  rw [List.getElem?_toArray, List.getElem?_append_right (by simp; omega), List.getElem?_replicate, if_pos (by simp; omega)]
theorem bc_set (s : ByteArray) (k : Nat) (h : k < s.size) : (bc s k).setIfInBounds k (.int .u8 (s[k].toNat : Int)) = bc s (k + 1) := by
  have hl : k < s.data.toList.length := by simpa using h
  apply Array.ext_getElem?
  intro j
  simp only [bc, List.setIfInBounds_toArray, List.getElem?_toArray]
  rw [List.getElem?_set, List.take_succ_eq_append_getElem hl, List.map_append, List.append_assoc]
  have hm : ((s.data.toList.take k).map (fun x => Value.int .u8 (x.toNat : Int))).length = k := by simp; omega
  by_cases hj : k = j
  · subst hj
    rw [if_pos rfl, if_pos (by simp; omega), List.getElem?_append_right (by omega), hm, Nat.sub_self]
    rfl
  · rw [if_neg hj]
    by_cases hlt : j < k
    · rw [List.getElem?_append_left (by omega), List.getElem?_append_left (by omega)]
    · obtain ⟨t, rfl⟩ : ∃ t, j = k + 1 + t := ⟨j - k - 1, by omega⟩
      rw [List.getElem?_append_right (by omega), List.getElem?_append_right (by omega), hm, show k + 1 + t - k = t + 1 by omega]
      show _ = (Value.int .u8 _ :: List.replicate (s.size - (k + 1)) (Value.int .u8 0))[t + 1]?
      rw [List.getElem?_cons_succ, List.getElem?_replicate, List.getElem?_replicate]
      by_cases hN : t + 1 < s.size - k
      · rw [if_pos hN, if_pos (by omega)]
      · rw [if_neg hN, if_neg (by omega)]
theorem bc_full (s : ByteArray) (i : Nat) (h : i < s.size) : (bc s s.size)[i]? = some (.int .u8 (s[i].toNat : Int)) := by
  have hl : i < s.data.toList.length := by simpa using h
  unfold bc
  rw [List.getElem?_toArray, List.take_of_length_le (by simp), List.getElem?_append_left (by simpa using h), List.getElem?_map, List.getElem?_eq_getElem hl]
  rfl
/-- The row that a clone lies in. -/
abbrev row (s : ByteArray) : Obj := .cells (bc s s.size) 5
theorem row_bytes (s : ByteArray) (w : World) : Bytes (w.alloc (row s)) w.heap.size 0 s := fun i h => by
  have hg := bc_full s i h
  rw [Nat.zero_add]
  go_simp

set_option maxHeartbeats 400000 in
theorem clone_some (s : ByteArray) (b o cap : Nat) (w : World) (hs : s.size ≤ 131072) (hb : b < w.heap.size) (hc : Bytes w b o s) :
    Calls Tryd.prog 6 #[.slice (some ⟨b, o, none⟩) s.size cap] w fun e w' => e = .returned (.slice (some ⟨w.heap.size, 0, none⟩) s.size s.size) ∧ w' = w.alloc (row s) := by
  have hq := nil_some ⟨b, o, none⟩ s.size cap
  have hmk : (Instr.makeSlice 22 (.int .i64 (s.size : Int)) (.int .i64 (s.size : Int))).run Tryd.prog w = .ok (.slice (some ⟨w.heap.size, 0, none⟩) s.size s.size) (w.alloc (.cells (bc s 0) 5)) := by
    rw [bc_zero]
    have h := run_make (P := Tryd.prog) w 22 5 Tryd.t5 (.int .u8 0) Tryd.underlying22 (by kernel_rfl) rfl .i64 .i64 s.size s.size (by omega) (by omega) (by show (1 : Int) * _ ≤ _; omega) (by omega)
    rw [Int.toNat_natCast, show s.size * Tryd.t5.size = s.size from Nat.mul_one _] at h
    exact h
  go_enter Tryd.func6, Tryd.ntmps6
  go_wp2
  go_loopw [4] (fun i wr => ∃ k : Nat, k ≤ s.size ∧ i = .int .i64 k ∧ wr = w.alloc (.cells (bc s k) 5)) (fun i _ => s.size - (intOf i).toNat)
  case atStart => exact ⟨0, Nat.zero_le _, rfl, rfl⟩
  case round =>
    obtain ⟨k, hk, rfl, rfl⟩ := hrel
    clear hmk
    by_cases hlt : k < s.size
    · have hck := hc k hlt
      have hn := bc_next s k hlt
      have hz := bc_size s k hk
      have hst : Hid _ := bc_set s k hlt
      go_wp2
      exact ⟨⟨k + 1, by omega, by go_num, by rw [hst.out]⟩, by simp [intOf]; omega⟩
    · have hk' : k = s.size := by omega
      subst hk'
      go_wp2
      go_ret
      exact ⟨rfl, rfl⟩

set_option maxHeartbeats 400000 in
theorem clone_empty (a : Addr) (cap : Nat) (w : World) :
    Calls Tryd.prog 6 #[.slice (some a) 0 cap] w fun e w' => e = .returned (.slice (some ⟨w.heap.size, 0, none⟩) ByteArray.empty.size ByteArray.empty.size) ∧ w' = w.alloc (row ByteArray.empty) := by
  have hq := nil_some a 0 cap
  have hmk : (Instr.makeSlice 22 (.int .i64 0) (.int .i64 0)).run Tryd.prog w = .ok (.slice (some ⟨w.heap.size, 0, none⟩) 0 0) (w.alloc (.cells #[] 5)) := by
    have h := run_make (P := Tryd.prog) w 22 5 Tryd.t5 (.int .u8 0) Tryd.underlying22 (by kernel_rfl) rfl .i64 .i64 0 0 (by omega) (by omega) (by decide) (by omega)
    rw [show (0 : Int).toNat * Tryd.t5.size = 0 from rfl, show madeCells (Value.int .u8 0).cells 0 = #[] from by simp [madeCells]] at h
    exact h
  go_enter Tryd.func6, Tryd.ntmps6
  go_wp2
  go_rounds 1
  go_ret
  exact ⟨rfl, rfl⟩

/-- What is known of a slice of bytes that came in. -/
theorem clone_any (s : ByteArray) (a : Addr) (cap : Nat) (w : World) (hs : s.size ≤ 131072) (h : s.size = 0 ∨ ∃ b o, a = ⟨b, o, none⟩ ∧ b < w.heap.size ∧ Bytes w b o s) :
    Calls Tryd.prog 6 #[.slice (some a) s.size cap] w fun e w' => e = .returned (.slice (some ⟨w.heap.size, 0, none⟩) s.size s.size) ∧ w' = w.alloc (row s) := by
  rcases h with h | ⟨b, o, rfl, hb, hc⟩
  · obtain rfl : s = ByteArray.empty := by
      apply ByteArray.ext
      exact Array.eq_empty_of_size_eq_zero h
    exact clone_empty a cap w
  · exact clone_some s b o cap w hs hb hc

/-- ZZnewLogTail: a pointer to a new struct that holds the slice. -/
theorem newTail_any (v : Value) (hv : ∃ a n c, v = .slice a n c) (w : World) : Calls Tryd.prog 7 #[v] w fun e w' => e = .returned (.pointer (some ⟨w.heap.size, 0, none⟩)) ∧ w' = w.alloc (.cells #[v] 33) := by
  obtain ⟨a, n, c, rfl⟩ := hv
  go_enter Tryd.func7, Tryd.ntmps7
  go_wp2
  go_ret
  exact ⟨rfl, rfl⟩

/-- What the law's own length test says. -/
theorem bytes5_in (a : Option Addr) (n c : Nat) (w : World) (h : n ≤ 1048576) : Calls Tryd.prog 5 #[.slice a n c] w fun e w' => e = .returned (.bool true) ∧ w' = w := by
  have h1 : (n : Int) ≤ 1048576 := by omega
  go_enter Tryd.func5, Tryd.ntmps5
  go_wp2
  go_ret
  exact ⟨rfl, rfl⟩
theorem bytes5_out (a : Option Addr) (n c : Nat) (w : World) (h : 1048576 < n) : Calls Tryd.prog 5 #[.slice a n c] w fun e w' => e = .returned (.bool false) ∧ w' = w := by
  have h1 : (1048576 : Int) < (n : Int) := by omega
  go_enter Tryd.func5, Tryd.ntmps5
  go_wp2
  go_ret
  exact ⟨rfl, rfl⟩
end Go.Proofs.Qxb6612424aDoor
