/-
  The walk of tailAfterFifthLastNewline.
-/
import Derived.Test.Qxb6612424aDoorWalk1
import Derived.Test.Qxb6612424aDoorPlain
namespace Go.Proofs.Qxb6612424aDoor
open Go.RowKit
open Go.Lib hiding intOf

theorem ret_int {k : IntKind} {a b : Int} (h : a = b) : Ending.returned (.int k a) = .returned (.int k b) := by rw [h]
theorem ret_str {a b : ByteArray} (h : a = b) : Ending.returned (.string a) = .returned (.string b) := by rw [h]
/-- The text behind the fifth newline from the end, as a string. -/
def tailB (s : ByteArray) : ByteArray := ⟨(tailOf s.data.toList).toArray⟩
theorem tailB_few (s : ByteArray) (h : s.data.toList.count 10 ≤ 4) : tailB s = s := by unfold tailB; rw [tail_few h]
theorem tailB_at (s : ByteArray) (k : Nat) (h : k < s.size) (hc : (s[k].toNat : Int) = 10) (hn : nl s.data.toList (k + 1) = 4) : tailB s = s.extract (k + 1) s.size := by
  have hl : k < s.data.toList.length := by simpa using h
  have e : s.data.toList[k] = 10 := UInt8.toNat_inj.1 (by show s[k].toNat = 10; omega)
  unfold tailB
  rw [tail_at _ k hl e hn]
  apply ByteArray.ext
  apply Array.toList_inj.1
  rw [extract_to_end]
theorem nl_hit (s : ByteArray) (k : Nat) (h : k < s.size) (hc : (s[k].toNat : Int) = 10) : nl s.data.toList k = nl s.data.toList (k + 1) + 1 := by
  have hl : k < s.data.toList.length := by simpa using h
  have e : s.data.toList[k] = 10 := UInt8.toNat_inj.1 (by show s[k].toNat = 10; omega)
  rw [nl_step _ k hl, if_pos e]
theorem nl_miss (s : ByteArray) (k : Nat) (h : k < s.size) (hc : (s[k].toNat : Int) ≠ 10) : nl s.data.toList k = nl s.data.toList (k + 1) := by
  have hl : k < s.data.toList.length := by simpa using h
  have e : s.data.toList[k] ≠ 10 := fun e => hc (by show ((s.data.toList[k]).toNat : Int) = 10; rw [e]; rfl)
  rw [nl_step _ k hl, if_neg e, Nat.add_zero]

set_option maxHeartbeats 400000 in
theorem after_some (s : ByteArray) (b o cap : Nat) (w : World) (hs : s.size ≤ 131072) (hcap : s.size ≤ cap) (hc : Bytes w b o s) :
    Calls Tryd.prog 9 #[.slice (some ⟨b, o, none⟩) s.size cap] w fun e w' => e = .returned (.string (tailB s)) ∧ w' = w := by
  have hwhole := run_convert_whole (P := Tryd.prog) w 22 5 9 Tryd.underlying22 Tryd.underlying5 Tryd.underlying9 b o s hc cap
  go_enter Tryd.func9, Tryd.ntmps9
  go_wp2
  go_loop [3, 4] (fun c i => ∃ k : Nat, k ≤ s.size ∧ i = .int .i64 ((k : Int) - 1) ∧ c = .int .i64 (nl s.data.toList k) ∧ nl s.data.toList k ≤ 4) (fun _ i => (intOf i + 1).toNat)
  case atStart => exact ⟨s.size, Nat.le_refl _, rfl, by rw [show s.size = s.data.toList.length by simp, nl_end]; rfl, by rw [show s.size = s.data.toList.length by simp, nl_end]; omega⟩
  case round =>
    obtain ⟨k, hk, rfl, rfl, hn⟩ := hrel
    cases k with
    | zero =>
      have H : Hid _ := tailB_few s (by rw [← nl_zero]; exact hn)
      generalize nl s.data.toList 0 = m at *
      go_wp2
      go_ret
      exact ⟨ret_str H.out.symm, rfl⟩
    | succ k =>
      have hlt : k < s.size := by omega
      have hck := hc k hlt
      rw [show ((k + 1 : Nat) : Int) - 1 = (k : Int) by omega]
      by_cases h10 : (s[k].toNat : Int) = 10
      · have hb : ((s[k].toNat : Int) == 10) = true := beq_iff_eq.2 h10
        have Hn : Hid _ := nl_hit s k hlt h10
        by_cases h4 : nl s.data.toList (k + 1) = 4
        · have H : Hid _ := tailB_at s k hlt h10 h4
          have hlt2 : k + 1 < s.size := by
            rcases Nat.lt_or_ge (k + 1) s.size with h | h
            · exact h
            · exfalso
              have : nl s.data.toList (k + 1) = 0 := by unfold nl; rw [List.drop_of_length_le (by simpa using h)]; rfl
              omega
          have hne : ¬ cap = k + 1 := by omega
          have hwin := run_convert_window (P := Tryd.prog) w 22 5 9 Tryd.underlying22 Tryd.underlying5 Tryd.underlying9 b o s hc (k + 1) (s.size - (k + 1)) (cap - (k + 1)) (by omega)
          rw [show k + 1 + (s.size - (k + 1)) = s.size by omega] at hwin
          clear h10
          rw [h4]
          clear h4 hn Hn
          go_wp2
          go_ret
          exact ⟨ret_str H.out.symm, rfl⟩
        · have hb5 : ((nl s.data.toList (k + 1) : Int) + 1 == 5) = false := beq_eq_false_iff_ne.2 (by omega)
          clear h10
          go_wp2
          go_round
          case rel => exact ⟨k, by omega, rfl, by rw [Hn.out]; go_num, by rw [Hn.out]; omega⟩
          case measure => (simp [intOf]; try omega)
      · have hb : ((s[k].toNat : Int) == 10) = false := beq_eq_false_iff_ne.2 h10
        have Hn : Hid _ := nl_miss s k hlt h10
        go_wp2
        go_round
        case rel => exact ⟨k, by omega, rfl, by rw [Hn.out], by rw [Hn.out]; exact hn⟩
        case measure => (simp [intOf]; try omega)

theorem after_nil (c : Nat) (w : World) : Calls Tryd.prog 9 #[.slice none 0 c] w fun e w' => e = .returned (.string ⟨#[]⟩) ∧ w' = w := by
  have hnil := run_convert_bytes_nil (P := Tryd.prog) w 22 5 Tryd.underlying22 Tryd.underlying5 0 c 9 Tryd.underlying9
  go_enter Tryd.func9, Tryd.ntmps9
  go_wp2
  go_rounds 1
  go_ret
  exact ⟨rfl, rfl⟩
end Go.Proofs.Qxb6612424aDoor
