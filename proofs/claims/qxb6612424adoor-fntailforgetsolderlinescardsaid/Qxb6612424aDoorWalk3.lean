/-
  The small walks of the second law: the counts of newlines, the length test, the clone as what append reads, the appends.
-/
import Derived.Test.Qxb6612424aDoorTail
import Derived.Deep.AppendSrc
namespace Go.Proofs.Qxb6612424aDoor
open Go.RowKit
open Go.Lib hiding intOf

/-- The newlines of the first k bytes. -/
def nlTo (s : ByteArray) (k : Nat) : Nat := (s.data.toList.take k).count 10
theorem nlTo_hit (s : ByteArray) (k : Nat) (h : k < s.size) (hc : (s[k].toNat : Int) = 10) : nlTo s (k + 1) = nlTo s k + 1 := by
  have hl : k < s.data.toList.length := by simpa using h
  have e : s.data.toList[k] = 10 := UInt8.toNat_inj.1 (by show s[k].toNat = 10; omega)
  unfold nlTo
  rw [List.take_succ_eq_append_getElem hl, List.count_append, e]
  rfl
theorem nlTo_miss (s : ByteArray) (k : Nat) (h : k < s.size) (hc : (s[k].toNat : Int) ≠ 10) : nlTo s (k + 1) = nlTo s k := by
  have hl : k < s.data.toList.length := by simpa using h
  have e : s.data.toList[k] ≠ 10 := fun e => hc (by show ((s.data.toList[k]).toNat : Int) = 10; rw [e]; rfl)
  unfold nlTo
  rw [List.take_succ_eq_append_getElem hl, List.count_append, List.count_cons_of_ne e]
  rfl
theorem nlTo_all (s : ByteArray) : nlTo s s.size = nls s := by
  unfold nlTo nls
  rw [List.take_of_length_le (by simp)]
theorem nlTo_le (s : ByteArray) (k : Nat) : nlTo s k ≤ k := by
  unfold nlTo
  exact Nat.le_trans List.count_le_length (List.length_take_le _ _)

set_option maxHeartbeats 400000 in
theorem count_some (s : ByteArray) (b o cap : Nat) (w : World) (hs : s.size ≤ 131072) (hc : Bytes w b o s) :
    Calls Tryd.prog 11 #[.slice (some ⟨b, o, none⟩) s.size cap] w fun e w' => e = .returned (.int .i64 (nls s)) ∧ w' = w := by
  go_enter Tryd.func11, Tryd.ntmps11
  go_wp2
  go_loop [3, 4] (fun c i => ∃ k : Nat, k ≤ s.size ∧ i = .int .i64 k ∧ c = .int .i64 (nlTo s k)) (fun _ i => s.size - (intOf i).toNat)
  case atStart => exact ⟨0, Nat.zero_le _, rfl, rfl⟩
  case round =>
    obtain ⟨k, hk, rfl, rfl⟩ := hrel
    have hle := nlTo_le s k
    by_cases hlt : k < s.size
    · have hck := hc k hlt
      by_cases h10 : (s[k].toNat : Int) = 10
      · have hb : ((s[k].toNat : Int) == 10) = true := beq_iff_eq.2 h10
        have Hn := hideP (nlTo_hit s k hlt h10)
        clear h10
        go_wp2
        go_round
        case rel => exact ⟨k + 1, by omega, by go_num, by rw [Hn.out]; go_num⟩
        case measure => (simp [intOf]; try omega)
      · have hb : ((s[k].toNat : Int) == 10) = false := beq_eq_false_iff_ne.2 h10
        have Hn := hideP (nlTo_miss s k hlt h10)
        go_wp2
        go_round
        case rel => exact ⟨k + 1, by omega, by go_num, by rw [Hn.out]⟩
        case measure => (simp [intOf]; try omega)
    · have hk' : k = s.size := by omega
      subst hk'
      have Hn := hideP (nlTo_all s)
      go_wp2
      go_ret
      exact ⟨ret_int (by rw [Hn.out]), rfl⟩
theorem count_none (a : Option Addr) (c : Nat) (w : World) : Calls Tryd.prog 11 #[.slice a 0 c] w fun e w' => e = .returned (.int .i64 0) ∧ w' = w := by
  go_enter Tryd.func11, Tryd.ntmps11
  go_wp2
  go_rounds 1
  go_ret
  exact ⟨rfl, rfl⟩

set_option maxHeartbeats 400000 in
theorem countString_any (s : ByteArray) (w : World) (hs : s.size ≤ 131072) :
    Calls Tryd.prog 12 #[.string s] w fun e w' => e = .returned (.int .i64 (nls s)) ∧ w' = w := by
  go_enter Tryd.func12, Tryd.ntmps12
  go_wp2
  go_loop [3, 4] (fun c i => ∃ k : Nat, k ≤ s.size ∧ i = .int .i64 k ∧ c = .int .i64 (nlTo s k)) (fun _ i => s.size - (intOf i).toNat)
  case atStart => exact ⟨0, Nat.zero_le _, rfl, rfl⟩
  case round =>
    obtain ⟨k, hk, rfl, rfl⟩ := hrel
    have hle := nlTo_le s k
    by_cases hlt : k < s.size
    · by_cases h10 : (s[k].toNat : Int) = 10
      · have hb : ((s[k].toNat : Int) == 10) = true := beq_iff_eq.2 h10
        have Hn := hideP (nlTo_hit s k hlt h10)
        clear h10
        go_wp2
        go_round
        case rel => exact ⟨k + 1, by omega, by go_num, by rw [Hn.out]; go_num⟩
        case measure => (simp [intOf]; try omega)
      · have hb : ((s[k].toNat : Int) == 10) = false := beq_eq_false_iff_ne.2 h10
        have Hn := hideP (nlTo_miss s k hlt h10)
        go_wp2
        go_round
        case rel => exact ⟨k + 1, by omega, by go_num, by rw [Hn.out]⟩
        case measure => (simp [intOf]; try omega)
    · have hk' : k = s.size := by omega
      subst hk'
      have Hn := hideP (nlTo_all s)
      go_wp2
      go_ret
      exact ⟨ret_int (by rw [Hn.out]), rfl⟩

theorem bytes10_in (a b : Option Addr) (n c m d : Nat) (w : World) (h : n + m ≤ 1048576) : Calls Tryd.prog 10 #[.slice a n c, .slice b m d] w fun e w' => e = .returned (.bool true) ∧ w' = w := by
  have h1 : (n : Int) ≤ 1048576 := by omega
  have h2 : (m : Int) ≤ 1048576 := by omega
  have h3 : (n : Int) + (m : Int) ≤ 1048576 := by omega
  go_enter Tryd.func10, Tryd.ntmps10
  go_wp2
  go_ret
  exact ⟨rfl, rfl⟩
theorem bytes10_out (a b : Option Addr) (n c m d : Nat) (w : World) (hn : n ≤ maxLen) (hm : m ≤ maxLen) (h : 1048576 < n + m) : Calls Tryd.prog 10 #[.slice a n c, .slice b m d] w fun e w' => e = .returned (.bool false) ∧ w' = w := by
  unfold maxLen at hn hm
  by_cases h1 : (1048576 : Int) < (n : Int)
  · go_enter Tryd.func10, Tryd.ntmps10
    go_wp2
    go_ret
    exact ⟨rfl, rfl⟩
  by_cases h2 : (1048576 : Int) < (m : Int)
  · go_enter Tryd.func10, Tryd.ntmps10
    go_wp2
    go_ret
    exact ⟨rfl, rfl⟩
  have h3 : (1048576 : Int) < (n : Int) + (m : Int) := by omega
  go_enter Tryd.func10, Tryd.ntmps10
  go_wp2
  go_ret
  exact ⟨rfl, rfl⟩

/-! ### the appends -/
/-- The cells C with the values laid from o on. -/
def over (C : Array Value) : Nat → List Value → Array Value
  | _, [] => C
  | o, v :: r => over (C.setIfInBounds o v) (o + 1) r
theorem setCells_last (w : World) (t : TypeId) : ∀ (vs : List Value) (C : Array Value) (o : Nat), (w.alloc (.cells C t)).setCells w.heap.size o vs = w.alloc (.cells (over C o vs) t)
  | [], _, _ => rfl
  | v :: r, C, o => by
    show ((w.alloc (.cells C t)).setCell ⟨w.heap.size, o, none⟩ v).setCells w.heap.size (o + 1) r = _
    rw [World.setCell_alloc_at C t w.heap.size o v rfl]
    exact setCells_last w t r _ _
theorem over_bc (S : ByteArray) : ∀ (vs : List Value) (k : Nat), k + vs.length ≤ S.size → (∀ j (h : j < vs.length) (h2 : k + j < S.size), vs[j] = .int .u8 (S[k + j].toNat : Int)) → over (bc S k) k vs = bc S (k + vs.length)
  | [], _, _, _ => rfl
  | v :: r, k, hl, h => by
    have hv := h 0 (by simp) (by simp at hl; omega)
    simp only [List.getElem_cons_zero, Nat.add_zero] at hv
    have ih := over_bc S r (k + 1) (by simp at hl; omega) (fun j hj h2 => by
      have := h (j + 1) (by simp; omega) (by omega)
      simp only [List.getElem_cons_succ] at this
      rw [this]
      simp only [show k + (j + 1) = k + 1 + j by omega])
    show over ((bc S k).setIfInBounds k v) (k + 1) r = _
    rw [hv, bc_set S k (by simp at hl; omega), ih]
    rw [List.length_cons, show k + 1 + r.length = k + (r.length + 1) by omega]

/-- One append with room, into the row that the call has just made. -/
theorem append_run (S s : ByteArray) (x : Value) (k : Nat) (w : World) (hk : k + s.size ≤ S.size) (hS : ∀ j (h : j < s.size) (h2 : k + j < S.size), S[k + j] = s[j])
    (hx : Src Tryd.prog 1 22 x s.size (byteCells s) (w.alloc (.cells (bc S k) 5))) :
    (Builtin.append_ #[22, 22] 22 #[.slice (some ⟨w.heap.size, 0, none⟩) k S.size, x]).run Tryd.prog (w.alloc (.cells (bc S k) 5)) = .ok (.slice (some ⟨w.heap.size, 0, none⟩) (k + s.size) S.size) (w.alloc (.cells (bc S (k + s.size)) 5)) := by
  have hsz := bc_size S k (by omega)
  have hlen := byteCells_length s
  have h := run_append_room_src (P := Tryd.prog) (w.alloc (.cells (bc S k) 5)) 22 22 22 5 Tryd.t5 Tryd.underlying22 (by kernel_rfl) w.heap.size 0 k S.size x s.size (byteCells s) hx (by omega)
    (fun j hj => by
      rw [World.cell?_alloc_new]
      rw [hlen] at hj
      have hlt : 0 + k * Tryd.t5.size + j < (bc S k).size := by rw [show Tryd.t5.size = 1 from rfl, hsz]; omega
      rw [Array.getElem?_eq_getElem hlt]
      rfl)
    (fun j hj => by go_simp)
  rw [h, show 0 + k * Tryd.t5.size = k from by rw [show Tryd.t5.size = 1 from rfl]; omega, setCells_last, over_bc S (byteCells s) k (by omega) (fun j hj h2 => by
    rw [hlen] at hj
    rw [hS j hj h2]
    simp [byteCells]
    rfl), hlen]
end Go.Proofs.Qxb6612424aDoor
