/-
  The walk of atom.
-/
import Derived.Test.Qxb6613685aGreatFmtNumS
import Derived.Test.Qxb6613685aGreatFmtKey
import Derived.RegionTactic
import Derived.ChangeAlike
import Derived.Deep.RegionWith
import Derived.BigRegion
namespace Go.Proofs.Qxb6613685aGreatFmt
open Go.RowKit
open Go.Lib hiding intOf

theorem came_kept {w W : World} {B b o cap : Nat} {line : Int} {s : ByteArray} (h : Came w B b o cap line s) (hk : Below w.heap.size w W) : Came W B b o cap line s :=
  ⟨Nat.lt_of_lt_of_le h.hb hk.size, Nat.lt_of_lt_of_le h.hB hk.size, by rw [hk.cell (p := ⟨B, 5, none⟩) h.hB]; exact h.line, by rw [hk.cell (p := ⟨B, 6, none⟩) h.hB]; exact h.tok, bytes_kept h.bytes h.hb hk, h.size, h.cap, h.pos⟩
theorem number_yes (B b o cap : Nat) (line : Int) (s : ByteArray) (x : Addr) (w : World) (hc0 : Came w B b o cap line s) (hv : w.var? Tryz.prog "strconv.ErrRange" = some #[.iface 87 (.pointer (some x))]) (hcond : Hid (numCond s.data.toList = true)) (f : Form) (hf : Hid (numL s.data.toList = some f)) :
    Calls Tryz.prog 16 #[.pointer (some ⟨B, 0, none⟩)] w fun e w' => e = .returned (.tuple #[.agg #[.int .u8 (f.1 : Int), .int .i64 line, .string (str f.2.1), .int .i64 f.2.2.1, .bool f.2.2.2, .slice none 0 0], .nilIface]) ∧ Below w.heap.size w w' :=
  (number_any B b o cap line s x w hc0 hv hcond.out).mono fun e w' h => by
    unfold AtomRet retV at h
    rw [hf.out] at h
    exact h
theorem number_no (B b o cap : Nat) (line : Int) (s : ByteArray) (x : Addr) (w : World) (hc0 : Came w B b o cap line s) (hv : w.var? Tryz.prog "strconv.ErrRange" = some #[.iface 87 (.pointer (some x))]) (hcond : Hid (numCond s.data.toList = true)) (hf : Hid (numL s.data.toList = none)) :
    Calls Tryz.prog 16 #[.pointer (some ⟨B, 0, none⟩)] w fun e w' => (∃ a, e = .returned (.tuple #[.agg #[.int .u8 0, .int .i64 0, .string ⟨#[]⟩, .int .i64 0, .bool false, .slice none 0 0], .iface 47 (.pointer (some a))])) ∧ Below w.heap.size w w' :=
  (number_any B b o cap line s x w hc0 hv hcond.out).mono fun e w' h => by
    unfold AtomRet retV at h
    rw [hf.out] at h
    exact h
theorem keyword_n (B M b o n cap : Nat) (s : ByteArray) (w : World) (hn : n = s.size) (hs : s.size ≤ 131072) (hM : w.heap[M]? = some (.map #[] 0)) (hk : w.cell? ⟨B, 11, none⟩ = some (.map (some M))) (hc : Bytes w b o s) :
    Calls Tryz.prog 14 #[.pointer (some ⟨B, 0, none⟩), .slice (some ⟨b, o, none⟩) n cap] w fun e w' => e = .returned (.string s) ∧ w.grownBy w' (some M) := by
  rw [hn]; exact keyword_any B M b o cap s w hs hM hk hc
theorem drew_first {w W : World} {k line : Int} (h : Below (start w k line).drew.heap.size (start w k line).drew W) : Below (start w k line).heap.size (start w k line) W := ⟨h.os, h.tape, h.output, h.size, h.block⟩
theorem grown_first {w W : World} {M : Nat} {k line : Int} (hM : M < w.heap.size) (h : (start w k line).grownBy W (some M)) : Six W w.heap.size 0 0 :=
  six_of ((h.block _ (by rw [start_size]; omega) (fun e => by cases e; omega)).trans (start_first w k line))
theorem grown_second {w W : World} {M : Nat} {k line : Int} (hM : M < w.heap.size) (h : (start w k line).grownBy W (some M)) : Six W (w.heap.size + 1) k line :=
  six_of ((h.block _ (by rw [start_size]; omega) (fun e => by cases e; omega)).trans (start_second w k line))
theorem grown_kept {w W : World} {M : Nat} {k line : Int} (hM : M < w.heap.size) (h : (start w k line).grownBy W (some M)) : Below M w W :=
  ((start_below w k line).mono (by omega)).trans ⟨h.os, h.tape, h.output, h.size, fun i hi => h.block i (by rw [start_size]; omega) (fun e => by cases e; omega)⟩
theorem isDigit_no (n : Int) (w : World) (h : (decide (48 ≤ n) && decide (n ≤ 57)) = false) : Calls Tryz.prog 15 #[.int .u8 n] w fun e w' => e = .returned (.bool false) ∧ w' = w := by
  rw [← h]; exact isDigit_any n w
theorem isDigit_yes (n : Int) (w : World) (h : (decide (48 ≤ n) && decide (n ≤ 57)) = true) : Calls Tryz.prog 15 #[.int .u8 n] w fun e w' => e = .returned (.bool true) ∧ w' = w := by
  rw [← h]; exact isDigit_any n w

set_option maxHeartbeats 1000000 in
theorem atom_nil (B b o cap : Nat) (line : Int) (s : ByteArray) (w : World) (hc0 : Came w B b o cap line s)  (h1 : 0 < s.size) (_n1 : s.toList = [110, 105, 108]) :
    Calls Tryz.prog 11 #[.pointer (some ⟨B, 0, none⟩)] w fun e w' => e = .returned (.tuple #[.agg #[.int .u8 0, .int .i64 line, .string ⟨#[]⟩, .int .i64 0, .bool false, .slice none 0 0], .nilIface]) ∧ Below w.heap.size w w' := by
  obtain ⟨hb, hB, hl, htk, hc, hs, hcap, _⟩ := hc0
  have h1i : (0 : Int) < (s.size : Int) := by omega
  have HW : Hid (Bytes ((w.alloc (.cells #[.int .u8 0, .int .i64 0, .string ⟨#[]⟩, .int .i64 0, .bool false, .slice none 0 0] 43)).alloc (.cells #[.int .u8 0, .int .i64 line, .string ⟨#[]⟩, .int .i64 0, .bool false, .slice none 0 0] 43)) b o s) := hideP (bytes_kept hc hb (start_below w 0 line))
  have hcv := run_convert_whole (P := Tryz.prog) _ 22 5 9 Tryz.underlying22 Tryz.underlying5 Tryz.underlying9 b o s HW.out cap
  clear hc
  go_enter Tryz.func11, Tryz.ntmps11
  go_wp2
  (try simp only [Exit.inBlock, Exit.then])
  refine bodyPost_ret (by simp [results, Tryz.results11, go_sem]; try rfl) rfl ?_
  exact ⟨rfl, (((Below.refl _ _).alloc (Nat.le_refl _) _).alloc (by rw [World.size_alloc]; omega) _)⟩

set_option maxHeartbeats 1000000 in
theorem atom_true (B b o cap : Nat) (line : Int) (s : ByteArray) (w : World) (hc0 : Came w B b o cap line s)  (h1 : 0 < s.size) (_n1 : ¬ s.toList = [110, 105, 108]) (_n2 : (s.toList == [110, 105, 108]) = false) (_t1 : s.toList = [116, 114, 117, 101]) :
    Calls Tryz.prog 11 #[.pointer (some ⟨B, 0, none⟩)] w fun e w' => e = .returned (.tuple #[.agg #[.int .u8 1, .int .i64 line, .string s, .int .i64 0, .bool false, .slice none 0 0], .nilIface]) ∧ Below w.heap.size w w' := by
  obtain ⟨hb, hB, hl, htk, hc, hs, hcap, _⟩ := hc0
  have h1i : (0 : Int) < (s.size : Int) := by omega
  have HW : Hid (Bytes ((w.alloc (.cells #[.int .u8 0, .int .i64 0, .string ⟨#[]⟩, .int .i64 0, .bool false, .slice none 0 0] 43)).alloc (.cells #[.int .u8 0, .int .i64 line, .string ⟨#[]⟩, .int .i64 0, .bool false, .slice none 0 0] 43)) b o s) := hideP (bytes_kept hc hb (start_below w 0 line))
  have hcv := run_convert_whole (P := Tryz.prog) _ 22 5 9 Tryz.underlying22 Tryz.underlying5 Tryz.underlying9 b o s HW.out cap
  have HWd : Hid (Bytes ((w.alloc (.cells #[.int .u8 0, .int .i64 0, .string ⟨#[]⟩, .int .i64 0, .bool false, .slice none 0 0] 43)).alloc (.cells #[.int .u8 0, .int .i64 line, .string ⟨#[]⟩, .int .i64 0, .bool false, .slice none 0 0] 43)).drew b o s) := hideP (bytes_kept hc hb (start_below w 0 line).drew)
  have hcvd := run_convert_whole (P := Tryz.prog) _ 22 5 9 Tryz.underlying22 Tryz.underlying5 Tryz.underlying9 b o s HWd.out cap
  have HWk : Hid (Bytes ((w.alloc (.cells #[.int .u8 0, .int .i64 0, .string ⟨#[]⟩, .int .i64 0, .bool false, .slice none 0 0] 43)).alloc (.cells #[.int .u8 1, .int .i64 line, .string ⟨#[]⟩, .int .i64 0, .bool false, .slice none 0 0] 43)).drew b o s) := hideP (bytes_kept hc hb (start_below w 1 line).drew)
  have hcvk := run_convert_whole (P := Tryz.prog) _ 22 5 9 Tryz.underlying22 Tryz.underlying5 Tryz.underlying9 b o s HWk.out cap
  clear hc
  go_enter Tryz.func11, Tryz.ntmps11
  go_wp2
  go_region
  all_goals (try go_wp2)
  all_goals (try simp only [Exit.inBlock, Exit.then])
  all_goals (refine bodyPost_ret (by simp [results, Tryz.results11, go_sem]; try rfl) rfl ?_)
  all_goals exact ⟨rfl, (((Below.refl _ _).alloc (Nat.le_refl _) _).alloc (by rw [World.size_alloc]; omega) _).drew⟩

set_option maxHeartbeats 1000000 in
theorem atom_false (B b o cap : Nat) (line : Int) (s : ByteArray) (w : World) (hc0 : Came w B b o cap line s)  (h1 : 0 < s.size) (_n1 : ¬ s.toList = [110, 105, 108]) (_n2 : (s.toList == [110, 105, 108]) = false) (_t1 : ¬ s.toList = [116, 114, 117, 101]) (_t2 : (s.toList == [116, 114, 117, 101]) = false) (_f1 : s.toList = [102, 97, 108, 115, 101]) :
    Calls Tryz.prog 11 #[.pointer (some ⟨B, 0, none⟩)] w fun e w' => e = .returned (.tuple #[.agg #[.int .u8 1, .int .i64 line, .string s, .int .i64 0, .bool false, .slice none 0 0], .nilIface]) ∧ Below w.heap.size w w' := by
  obtain ⟨hb, hB, hl, htk, hc, hs, hcap, _⟩ := hc0
  have h1i : (0 : Int) < (s.size : Int) := by omega
  have HW : Hid (Bytes ((w.alloc (.cells #[.int .u8 0, .int .i64 0, .string ⟨#[]⟩, .int .i64 0, .bool false, .slice none 0 0] 43)).alloc (.cells #[.int .u8 0, .int .i64 line, .string ⟨#[]⟩, .int .i64 0, .bool false, .slice none 0 0] 43)) b o s) := hideP (bytes_kept hc hb (start_below w 0 line))
  have hcv := run_convert_whole (P := Tryz.prog) _ 22 5 9 Tryz.underlying22 Tryz.underlying5 Tryz.underlying9 b o s HW.out cap
  have HWd : Hid (Bytes ((w.alloc (.cells #[.int .u8 0, .int .i64 0, .string ⟨#[]⟩, .int .i64 0, .bool false, .slice none 0 0] 43)).alloc (.cells #[.int .u8 0, .int .i64 line, .string ⟨#[]⟩, .int .i64 0, .bool false, .slice none 0 0] 43)).drew b o s) := hideP (bytes_kept hc hb (start_below w 0 line).drew)
  have hcvd := run_convert_whole (P := Tryz.prog) _ 22 5 9 Tryz.underlying22 Tryz.underlying5 Tryz.underlying9 b o s HWd.out cap
  have HWk : Hid (Bytes ((w.alloc (.cells #[.int .u8 0, .int .i64 0, .string ⟨#[]⟩, .int .i64 0, .bool false, .slice none 0 0] 43)).alloc (.cells #[.int .u8 1, .int .i64 line, .string ⟨#[]⟩, .int .i64 0, .bool false, .slice none 0 0] 43)).drew b o s) := hideP (bytes_kept hc hb (start_below w 1 line).drew)
  have hcvk := run_convert_whole (P := Tryz.prog) _ 22 5 9 Tryz.underlying22 Tryz.underlying5 Tryz.underlying9 b o s HWk.out cap
  clear hc
  go_enter Tryz.func11, Tryz.ntmps11
  go_wp2
  go_region
  all_goals (try go_wp2)
  all_goals (try simp only [Exit.inBlock, Exit.then])
  all_goals (refine bodyPost_ret (by simp [results, Tryz.results11, go_sem]; try rfl) rfl ?_)
  all_goals exact ⟨rfl, (((Below.refl _ _).alloc (Nat.le_refl _) _).alloc (by rw [World.size_alloc]; omega) _).drew⟩

set_option maxHeartbeats 1000000 in
theorem atom_sym_one (B b o cap : Nat) (line : Int) (s : ByteArray) (w : World) (hc0 : Came w B b o cap line s)  (h1 : 0 < s.size) (_n1 : ¬ s.toList = [110, 105, 108]) (_n2 : (s.toList == [110, 105, 108]) = false) (_t1 : ¬ s.toList = [116, 114, 117, 101]) (_t2 : (s.toList == [116, 114, 117, 101]) = false) (_f1 : ¬ s.toList = [102, 97, 108, 115, 101]) (_f2 : (s.toList == [102, 97, 108, 115, 101]) = false) (_b1 : ((s[0].toNat : Int) == 58) = false) (_b2 : ¬ (s[0].toNat : Int) = 58) (_d0 : (decide ((48 : Int) ≤ (s[0].toNat : Int)) && decide ((s[0].toNat : Int) ≤ 57)) = false) (_l1 : decide ((1 : Int) < (s.size : Int)) = false) :
    Calls Tryz.prog 11 #[.pointer (some ⟨B, 0, none⟩)] w fun e w' => e = .returned (.tuple #[.agg #[.int .u8 7, .int .i64 line, .string s, .int .i64 0, .bool false, .slice none 0 0], .nilIface]) ∧ Below w.heap.size w w' := by
  obtain ⟨hb, hB, hl, htk, hc, hs, hcap, _⟩ := hc0
  have h1i : (0 : Int) < (s.size : Int) := by omega
  have HW : Hid (Bytes ((w.alloc (.cells #[.int .u8 0, .int .i64 0, .string ⟨#[]⟩, .int .i64 0, .bool false, .slice none 0 0] 43)).alloc (.cells #[.int .u8 0, .int .i64 line, .string ⟨#[]⟩, .int .i64 0, .bool false, .slice none 0 0] 43)) b o s) := hideP (bytes_kept hc hb (start_below w 0 line))
  have hcv := run_convert_whole (P := Tryz.prog) _ 22 5 9 Tryz.underlying22 Tryz.underlying5 Tryz.underlying9 b o s HW.out cap
  have HWd : Hid (Bytes ((w.alloc (.cells #[.int .u8 0, .int .i64 0, .string ⟨#[]⟩, .int .i64 0, .bool false, .slice none 0 0] 43)).alloc (.cells #[.int .u8 0, .int .i64 line, .string ⟨#[]⟩, .int .i64 0, .bool false, .slice none 0 0] 43)).drew b o s) := hideP (bytes_kept hc hb (start_below w 0 line).drew)
  have hcvd := run_convert_whole (P := Tryz.prog) _ 22 5 9 Tryz.underlying22 Tryz.underlying5 Tryz.underlying9 b o s HWd.out cap
  have HWk : Hid (Bytes ((w.alloc (.cells #[.int .u8 0, .int .i64 0, .string ⟨#[]⟩, .int .i64 0, .bool false, .slice none 0 0] 43)).alloc (.cells #[.int .u8 7, .int .i64 line, .string ⟨#[]⟩, .int .i64 0, .bool false, .slice none 0 0] 43)).drew b o s) := hideP (bytes_kept hc hb (start_below w 7 line).drew)
  have hcvk := run_convert_whole (P := Tryz.prog) _ 22 5 9 Tryz.underlying22 Tryz.underlying5 Tryz.underlying9 b o s HWk.out cap
  have hz0 : ((w.alloc (.cells #[.int .u8 0, .int .i64 0, .string ⟨#[]⟩, .int .i64 0, .bool false, .slice none 0 0] 43)).alloc (.cells #[.int .u8 0, .int .i64 line, .string ⟨#[]⟩, .int .i64 0, .bool false, .slice none 0 0] 43)).cell? ⟨b, o, none⟩ = some (.int .u8 (s[0].toNat : Int)) := HW.out 0 h1
  clear hc
  go_enter Tryz.func11, Tryz.ntmps11
  go_wp2_with (go_at_call 15; (first | refine (isDigit_no _ _ _d0).mono ?_); rintro e w2 ⟨rfl, hw⟩; have hw2 := hw.symm; subst hw2)
  go_region
  all_goals (try go_wp2)
  all_goals (try simp only [Exit.inBlock, Exit.then])
  all_goals (refine bodyPost_ret (by simp [results, Tryz.results11, go_sem]; try rfl) rfl ?_)
  all_goals exact ⟨rfl, (((Below.refl _ _).alloc (Nat.le_refl _) _).alloc (by rw [World.size_alloc]; omega) _).drew⟩

set_option maxHeartbeats 1000000 in
theorem atom_sym_no (B b o cap : Nat) (line : Int) (s : ByteArray) (w : World) (hc0 : Came w B b o cap line s)  (h1 : 0 < s.size) (_n1 : ¬ s.toList = [110, 105, 108]) (_n2 : (s.toList == [110, 105, 108]) = false) (_t1 : ¬ s.toList = [116, 114, 117, 101]) (_t2 : (s.toList == [116, 114, 117, 101]) = false) (_f1 : ¬ s.toList = [102, 97, 108, 115, 101]) (_f2 : (s.toList == [102, 97, 108, 115, 101]) = false) (_b1 : ((s[0].toNat : Int) == 58) = false) (_b2 : ¬ (s[0].toNat : Int) = 58) (_d0 : (decide ((48 : Int) ≤ (s[0].toNat : Int)) && decide ((s[0].toNat : Int) ≤ 57)) = false) (_l1 : (1 : Int) < (s.size : Int)) (_l2 : 1 < s.size) (_p : ¬ (s[0].toNat : Int) = 43) (_p2 : ((s[0].toNat : Int) == 43) = false) (_q : ¬ (s[0].toNat : Int) = 45) (_q2 : ((s[0].toNat : Int) == 45) = false) :
    Calls Tryz.prog 11 #[.pointer (some ⟨B, 0, none⟩)] w fun e w' => e = .returned (.tuple #[.agg #[.int .u8 7, .int .i64 line, .string s, .int .i64 0, .bool false, .slice none 0 0], .nilIface]) ∧ Below w.heap.size w w' := by
  obtain ⟨hb, hB, hl, htk, hc, hs, hcap, _⟩ := hc0
  have h1i : (0 : Int) < (s.size : Int) := by omega
  have HW : Hid (Bytes ((w.alloc (.cells #[.int .u8 0, .int .i64 0, .string ⟨#[]⟩, .int .i64 0, .bool false, .slice none 0 0] 43)).alloc (.cells #[.int .u8 0, .int .i64 line, .string ⟨#[]⟩, .int .i64 0, .bool false, .slice none 0 0] 43)) b o s) := hideP (bytes_kept hc hb (start_below w 0 line))
  have hcv := run_convert_whole (P := Tryz.prog) _ 22 5 9 Tryz.underlying22 Tryz.underlying5 Tryz.underlying9 b o s HW.out cap
  have HWd : Hid (Bytes ((w.alloc (.cells #[.int .u8 0, .int .i64 0, .string ⟨#[]⟩, .int .i64 0, .bool false, .slice none 0 0] 43)).alloc (.cells #[.int .u8 0, .int .i64 line, .string ⟨#[]⟩, .int .i64 0, .bool false, .slice none 0 0] 43)).drew b o s) := hideP (bytes_kept hc hb (start_below w 0 line).drew)
  have hcvd := run_convert_whole (P := Tryz.prog) _ 22 5 9 Tryz.underlying22 Tryz.underlying5 Tryz.underlying9 b o s HWd.out cap
  have HWk : Hid (Bytes ((w.alloc (.cells #[.int .u8 0, .int .i64 0, .string ⟨#[]⟩, .int .i64 0, .bool false, .slice none 0 0] 43)).alloc (.cells #[.int .u8 7, .int .i64 line, .string ⟨#[]⟩, .int .i64 0, .bool false, .slice none 0 0] 43)).drew b o s) := hideP (bytes_kept hc hb (start_below w 7 line).drew)
  have hcvk := run_convert_whole (P := Tryz.prog) _ 22 5 9 Tryz.underlying22 Tryz.underlying5 Tryz.underlying9 b o s HWk.out cap
  have hz0 : ((w.alloc (.cells #[.int .u8 0, .int .i64 0, .string ⟨#[]⟩, .int .i64 0, .bool false, .slice none 0 0] 43)).alloc (.cells #[.int .u8 0, .int .i64 line, .string ⟨#[]⟩, .int .i64 0, .bool false, .slice none 0 0] 43)).cell? ⟨b, o, none⟩ = some (.int .u8 (s[0].toNat : Int)) := HW.out 0 h1
  clear hc
  go_enter Tryz.func11, Tryz.ntmps11
  go_wp2_with (go_at_call 15; (first | refine (isDigit_no _ _ _d0).mono ?_); rintro e w2 ⟨rfl, hw⟩; have hw2 := hw.symm; subst hw2)
  go_region
  all_goals (try go_wp2)
  all_goals (try simp only [Exit.inBlock, Exit.then])
  all_goals (refine bodyPost_ret (by simp [results, Tryz.results11, go_sem]; try rfl) rfl ?_)
  all_goals exact ⟨rfl, (((Below.refl _ _).alloc (Nat.le_refl _) _).alloc (by rw [World.size_alloc]; omega) _).drew⟩

set_option maxHeartbeats 1000000 in
theorem atom_sym_pos (B b o cap : Nat) (line : Int) (s : ByteArray) (w : World) (hc0 : Came w B b o cap line s)  (h1 : 0 < s.size) (_n1 : ¬ s.toList = [110, 105, 108]) (_n2 : (s.toList == [110, 105, 108]) = false) (_t1 : ¬ s.toList = [116, 114, 117, 101]) (_t2 : (s.toList == [116, 114, 117, 101]) = false) (_f1 : ¬ s.toList = [102, 97, 108, 115, 101]) (_f2 : (s.toList == [102, 97, 108, 115, 101]) = false) (_b1 : ((s[0].toNat : Int) == 58) = false) (_b2 : ¬ (s[0].toNat : Int) = 58) (_d0 : (decide ((48 : Int) ≤ (s[0].toNat : Int)) && decide ((s[0].toNat : Int) ≤ 57)) = false) (_l1 : (1 : Int) < (s.size : Int)) (_l2 : 1 < s.size) (_p : (s[0].toNat : Int) = 43) (_d1 : (decide ((48 : Int) ≤ (s[1].toNat : Int)) && decide ((s[1].toNat : Int) ≤ 57)) = false) :
    Calls Tryz.prog 11 #[.pointer (some ⟨B, 0, none⟩)] w fun e w' => e = .returned (.tuple #[.agg #[.int .u8 7, .int .i64 line, .string s, .int .i64 0, .bool false, .slice none 0 0], .nilIface]) ∧ Below w.heap.size w w' := by
  obtain ⟨hb, hB, hl, htk, hc, hs, hcap, _⟩ := hc0
  have h1i : (0 : Int) < (s.size : Int) := by omega
  have HW : Hid (Bytes ((w.alloc (.cells #[.int .u8 0, .int .i64 0, .string ⟨#[]⟩, .int .i64 0, .bool false, .slice none 0 0] 43)).alloc (.cells #[.int .u8 0, .int .i64 line, .string ⟨#[]⟩, .int .i64 0, .bool false, .slice none 0 0] 43)) b o s) := hideP (bytes_kept hc hb (start_below w 0 line))
  have hcv := run_convert_whole (P := Tryz.prog) _ 22 5 9 Tryz.underlying22 Tryz.underlying5 Tryz.underlying9 b o s HW.out cap
  have HWd : Hid (Bytes ((w.alloc (.cells #[.int .u8 0, .int .i64 0, .string ⟨#[]⟩, .int .i64 0, .bool false, .slice none 0 0] 43)).alloc (.cells #[.int .u8 0, .int .i64 line, .string ⟨#[]⟩, .int .i64 0, .bool false, .slice none 0 0] 43)).drew b o s) := hideP (bytes_kept hc hb (start_below w 0 line).drew)
  have hcvd := run_convert_whole (P := Tryz.prog) _ 22 5 9 Tryz.underlying22 Tryz.underlying5 Tryz.underlying9 b o s HWd.out cap
  have HWk : Hid (Bytes ((w.alloc (.cells #[.int .u8 0, .int .i64 0, .string ⟨#[]⟩, .int .i64 0, .bool false, .slice none 0 0] 43)).alloc (.cells #[.int .u8 7, .int .i64 line, .string ⟨#[]⟩, .int .i64 0, .bool false, .slice none 0 0] 43)).drew b o s) := hideP (bytes_kept hc hb (start_below w 7 line).drew)
  have hcvk := run_convert_whole (P := Tryz.prog) _ 22 5 9 Tryz.underlying22 Tryz.underlying5 Tryz.underlying9 b o s HWk.out cap
  have hz0 : ((w.alloc (.cells #[.int .u8 0, .int .i64 0, .string ⟨#[]⟩, .int .i64 0, .bool false, .slice none 0 0] 43)).alloc (.cells #[.int .u8 0, .int .i64 line, .string ⟨#[]⟩, .int .i64 0, .bool false, .slice none 0 0] 43)).cell? ⟨b, o, none⟩ = some (.int .u8 (s[0].toNat : Int)) := HW.out 0 h1
  have hz1 : ((w.alloc (.cells #[.int .u8 0, .int .i64 0, .string ⟨#[]⟩, .int .i64 0, .bool false, .slice none 0 0] 43)).alloc (.cells #[.int .u8 0, .int .i64 line, .string ⟨#[]⟩, .int .i64 0, .bool false, .slice none 0 0] 43)).cell? ⟨b, o + 1, none⟩ = some (.int .u8 (s[1].toNat : Int)) := HW.out 1 _l2
  clear hc
  go_enter Tryz.func11, Tryz.ntmps11
  go_wp2_with (go_at_call 15; (first | (have _g := flag; clear _g; refine (isDigit_no _ _ _d1).mono ?_) | (refine (isDigit_no 43 _ (by decide)).mono ?_; have flag : Hid True := hideP trivial)); rintro e w2 ⟨rfl, hw⟩; have hw2 := hw.symm; subst hw2)
  go_region
  all_goals (try go_wp2)
  all_goals (try simp only [Exit.inBlock, Exit.then])
  all_goals (refine bodyPost_ret (by simp [results, Tryz.results11, go_sem]; try rfl) rfl ?_)
  all_goals exact ⟨rfl, (((Below.refl _ _).alloc (Nat.le_refl _) _).alloc (by rw [World.size_alloc]; omega) _).drew⟩

set_option maxHeartbeats 1000000 in
theorem atom_sym_neg (B b o cap : Nat) (line : Int) (s : ByteArray) (w : World) (hc0 : Came w B b o cap line s)  (h1 : 0 < s.size) (_n1 : ¬ s.toList = [110, 105, 108]) (_n2 : (s.toList == [110, 105, 108]) = false) (_t1 : ¬ s.toList = [116, 114, 117, 101]) (_t2 : (s.toList == [116, 114, 117, 101]) = false) (_f1 : ¬ s.toList = [102, 97, 108, 115, 101]) (_f2 : (s.toList == [102, 97, 108, 115, 101]) = false) (_b1 : ((s[0].toNat : Int) == 58) = false) (_b2 : ¬ (s[0].toNat : Int) = 58) (_d0 : (decide ((48 : Int) ≤ (s[0].toNat : Int)) && decide ((s[0].toNat : Int) ≤ 57)) = false) (_l1 : (1 : Int) < (s.size : Int)) (_l2 : 1 < s.size) (_p : ¬ (s[0].toNat : Int) = 43) (_p2 : ((s[0].toNat : Int) == 43) = false) (_q : (s[0].toNat : Int) = 45) (_d1 : (decide ((48 : Int) ≤ (s[1].toNat : Int)) && decide ((s[1].toNat : Int) ≤ 57)) = false) :
    Calls Tryz.prog 11 #[.pointer (some ⟨B, 0, none⟩)] w fun e w' => e = .returned (.tuple #[.agg #[.int .u8 7, .int .i64 line, .string s, .int .i64 0, .bool false, .slice none 0 0], .nilIface]) ∧ Below w.heap.size w w' := by
  obtain ⟨hb, hB, hl, htk, hc, hs, hcap, _⟩ := hc0
  have h1i : (0 : Int) < (s.size : Int) := by omega
  have HW : Hid (Bytes ((w.alloc (.cells #[.int .u8 0, .int .i64 0, .string ⟨#[]⟩, .int .i64 0, .bool false, .slice none 0 0] 43)).alloc (.cells #[.int .u8 0, .int .i64 line, .string ⟨#[]⟩, .int .i64 0, .bool false, .slice none 0 0] 43)) b o s) := hideP (bytes_kept hc hb (start_below w 0 line))
  have hcv := run_convert_whole (P := Tryz.prog) _ 22 5 9 Tryz.underlying22 Tryz.underlying5 Tryz.underlying9 b o s HW.out cap
  have HWd : Hid (Bytes ((w.alloc (.cells #[.int .u8 0, .int .i64 0, .string ⟨#[]⟩, .int .i64 0, .bool false, .slice none 0 0] 43)).alloc (.cells #[.int .u8 0, .int .i64 line, .string ⟨#[]⟩, .int .i64 0, .bool false, .slice none 0 0] 43)).drew b o s) := hideP (bytes_kept hc hb (start_below w 0 line).drew)
  have hcvd := run_convert_whole (P := Tryz.prog) _ 22 5 9 Tryz.underlying22 Tryz.underlying5 Tryz.underlying9 b o s HWd.out cap
  have HWk : Hid (Bytes ((w.alloc (.cells #[.int .u8 0, .int .i64 0, .string ⟨#[]⟩, .int .i64 0, .bool false, .slice none 0 0] 43)).alloc (.cells #[.int .u8 7, .int .i64 line, .string ⟨#[]⟩, .int .i64 0, .bool false, .slice none 0 0] 43)).drew b o s) := hideP (bytes_kept hc hb (start_below w 7 line).drew)
  have hcvk := run_convert_whole (P := Tryz.prog) _ 22 5 9 Tryz.underlying22 Tryz.underlying5 Tryz.underlying9 b o s HWk.out cap
  have hz0 : ((w.alloc (.cells #[.int .u8 0, .int .i64 0, .string ⟨#[]⟩, .int .i64 0, .bool false, .slice none 0 0] 43)).alloc (.cells #[.int .u8 0, .int .i64 line, .string ⟨#[]⟩, .int .i64 0, .bool false, .slice none 0 0] 43)).cell? ⟨b, o, none⟩ = some (.int .u8 (s[0].toNat : Int)) := HW.out 0 h1
  have hz1 : ((w.alloc (.cells #[.int .u8 0, .int .i64 0, .string ⟨#[]⟩, .int .i64 0, .bool false, .slice none 0 0] 43)).alloc (.cells #[.int .u8 0, .int .i64 line, .string ⟨#[]⟩, .int .i64 0, .bool false, .slice none 0 0] 43)).cell? ⟨b, o + 1, none⟩ = some (.int .u8 (s[1].toNat : Int)) := HW.out 1 _l2
  clear hc
  go_enter Tryz.func11, Tryz.ntmps11
  go_wp2_with (go_at_call 15; (first | (have _g := flag; clear _g; refine (isDigit_no _ _ _d1).mono ?_) | (refine (isDigit_no 45 _ (by decide)).mono ?_; have flag : Hid True := hideP trivial)); rintro e w2 ⟨rfl, hw⟩; have hw2 := hw.symm; subst hw2)
  go_region
  all_goals (try go_wp2)
  all_goals (try simp only [Exit.inBlock, Exit.then])
  all_goals (refine bodyPost_ret (by simp [results, Tryz.results11, go_sem]; try rfl) rfl ?_)
  all_goals exact ⟨rfl, (((Below.refl _ _).alloc (Nat.le_refl _) _).alloc (by rw [World.size_alloc]; omega) _).drew⟩

set_option maxHeartbeats 1000000 in
theorem atom_num_dig_y (B b o cap : Nat) (line : Int) (s : ByteArray) (w : World) (hc0 : Came w B b o cap line s) (x : Addr) (hv : w.var? Tryz.prog "strconv.ErrRange" = some #[.iface 87 (.pointer (some x))]) (hcond : Hid (numCond s.data.toList = true)) (h1 : 0 < s.size) (_n1 : ¬ s.toList = [110, 105, 108]) (_n2 : (s.toList == [110, 105, 108]) = false) (_t1 : ¬ s.toList = [116, 114, 117, 101]) (_t2 : (s.toList == [116, 114, 117, 101]) = false) (_f1 : ¬ s.toList = [102, 97, 108, 115, 101]) (_f2 : (s.toList == [102, 97, 108, 115, 101]) = false) (_b1 : ((s[0].toNat : Int) == 58) = false) (_b2 : ¬ (s[0].toNat : Int) = 58) (_d0 : (decide ((48 : Int) ≤ (s[0].toNat : Int)) && decide ((s[0].toNat : Int) ≤ 57)) = true) (f : Form) (hf : Hid (numL s.data.toList = some f)) :
    Calls Tryz.prog 11 #[.pointer (some ⟨B, 0, none⟩)] w fun e w' => e = .returned (.tuple #[formV line f, .nilIface]) ∧ Below w.heap.size w w' := by
  obtain ⟨hb, hB, hl, htk, hc, hs, hcap, _⟩ := hc0
  have h1i : (0 : Int) < (s.size : Int) := by omega
  have HW : Hid (Bytes ((w.alloc (.cells #[.int .u8 0, .int .i64 0, .string ⟨#[]⟩, .int .i64 0, .bool false, .slice none 0 0] 43)).alloc (.cells #[.int .u8 0, .int .i64 line, .string ⟨#[]⟩, .int .i64 0, .bool false, .slice none 0 0] 43)) b o s) := hideP (bytes_kept hc hb (start_below w 0 line))
  have hcv := run_convert_whole (P := Tryz.prog) _ 22 5 9 Tryz.underlying22 Tryz.underlying5 Tryz.underlying9 b o s HW.out cap
  have hz0 : ((w.alloc (.cells #[.int .u8 0, .int .i64 0, .string ⟨#[]⟩, .int .i64 0, .bool false, .slice none 0 0] 43)).alloc (.cells #[.int .u8 0, .int .i64 line, .string ⟨#[]⟩, .int .i64 0, .bool false, .slice none 0 0] 43)).cell? ⟨b, o, none⟩ = some (.int .u8 (s[0].toNat : Int)) := HW.out 0 h1
  have HC : Hid (Came ((w.alloc (.cells #[.int .u8 0, .int .i64 0, .string ⟨#[]⟩, .int .i64 0, .bool false, .slice none 0 0] 43)).alloc (.cells #[.int .u8 0, .int .i64 line, .string ⟨#[]⟩, .int .i64 0, .bool false, .slice none 0 0] 43)) B b o cap line s) := hideP (came_kept ⟨hb, hB, hl, htk, hc, hs, hcap, h1⟩ (start_below w 0 line))
  have HV : Hid (((w.alloc (.cells #[.int .u8 0, .int .i64 0, .string ⟨#[]⟩, .int .i64 0, .bool false, .slice none 0 0] 43)).alloc (.cells #[.int .u8 0, .int .i64 line, .string ⟨#[]⟩, .int .i64 0, .bool false, .slice none 0 0] 43)).var? Tryz.prog "strconv.ErrRange" = some #[.iface 87 (.pointer (some x))]) := hideP (var_kept (by omega) hv (start_below w 0 line))
  clear hc hv
  go_enter Tryz.func11, Tryz.ntmps11
  go_wp2_with (first
    | (go_at_call 15; (first | refine (isDigit_yes _ _ _d0).mono ?_); rintro e w2 ⟨rfl, hw⟩; have hw2 := hw.symm; subst hw2)
    | (go_at_call 16; refine (number_yes B b o cap line s x _ HC.out HV.out hcond f hf).mono ?_; rintro e w3 ⟨rfl, hb3⟩; obtain ⟨⟨p0, p1, p2, p3, p4, p5⟩, q0, q1, q2, q3, q4, q5⟩ := first_kept (w := w) (k := 0) (line := line) hb3))
  (try simp only [Exit.inBlock, Exit.then])
  refine bodyPost_ret (by simp [results, Tryz.results11, go_sem, p0, p1, p2, p3, p4, p5]; try rfl) rfl ?_
  refine ⟨rfl, ?_⟩
  repeat (refine Below.setCell ?_ (by first | exact Nat.le_refl _ | exact Nat.le_add_right _ _) _)
  exact start_kept hb3

set_option maxHeartbeats 1000000 in
theorem atom_num_dig_n (B b o cap : Nat) (line : Int) (s : ByteArray) (w : World) (hc0 : Came w B b o cap line s) (x : Addr) (hv : w.var? Tryz.prog "strconv.ErrRange" = some #[.iface 87 (.pointer (some x))]) (hcond : Hid (numCond s.data.toList = true)) (h1 : 0 < s.size) (_n1 : ¬ s.toList = [110, 105, 108]) (_n2 : (s.toList == [110, 105, 108]) = false) (_t1 : ¬ s.toList = [116, 114, 117, 101]) (_t2 : (s.toList == [116, 114, 117, 101]) = false) (_f1 : ¬ s.toList = [102, 97, 108, 115, 101]) (_f2 : (s.toList == [102, 97, 108, 115, 101]) = false) (_b1 : ((s[0].toNat : Int) == 58) = false) (_b2 : ¬ (s[0].toNat : Int) = 58) (_d0 : (decide ((48 : Int) ≤ (s[0].toNat : Int)) && decide ((s[0].toNat : Int) ≤ 57)) = true) (hf : Hid (numL s.data.toList = none)) :
    Calls Tryz.prog 11 #[.pointer (some ⟨B, 0, none⟩)] w fun e w' => (∃ a, e = .returned (.tuple #[zeroV, .iface 47 (.pointer (some a))])) ∧ Below w.heap.size w w' := by
  obtain ⟨hb, hB, hl, htk, hc, hs, hcap, _⟩ := hc0
  have h1i : (0 : Int) < (s.size : Int) := by omega
  have HW : Hid (Bytes ((w.alloc (.cells #[.int .u8 0, .int .i64 0, .string ⟨#[]⟩, .int .i64 0, .bool false, .slice none 0 0] 43)).alloc (.cells #[.int .u8 0, .int .i64 line, .string ⟨#[]⟩, .int .i64 0, .bool false, .slice none 0 0] 43)) b o s) := hideP (bytes_kept hc hb (start_below w 0 line))
  have hcv := run_convert_whole (P := Tryz.prog) _ 22 5 9 Tryz.underlying22 Tryz.underlying5 Tryz.underlying9 b o s HW.out cap
  have hz0 : ((w.alloc (.cells #[.int .u8 0, .int .i64 0, .string ⟨#[]⟩, .int .i64 0, .bool false, .slice none 0 0] 43)).alloc (.cells #[.int .u8 0, .int .i64 line, .string ⟨#[]⟩, .int .i64 0, .bool false, .slice none 0 0] 43)).cell? ⟨b, o, none⟩ = some (.int .u8 (s[0].toNat : Int)) := HW.out 0 h1
  have HC : Hid (Came ((w.alloc (.cells #[.int .u8 0, .int .i64 0, .string ⟨#[]⟩, .int .i64 0, .bool false, .slice none 0 0] 43)).alloc (.cells #[.int .u8 0, .int .i64 line, .string ⟨#[]⟩, .int .i64 0, .bool false, .slice none 0 0] 43)) B b o cap line s) := hideP (came_kept ⟨hb, hB, hl, htk, hc, hs, hcap, h1⟩ (start_below w 0 line))
  have HV : Hid (((w.alloc (.cells #[.int .u8 0, .int .i64 0, .string ⟨#[]⟩, .int .i64 0, .bool false, .slice none 0 0] 43)).alloc (.cells #[.int .u8 0, .int .i64 line, .string ⟨#[]⟩, .int .i64 0, .bool false, .slice none 0 0] 43)).var? Tryz.prog "strconv.ErrRange" = some #[.iface 87 (.pointer (some x))]) := hideP (var_kept (by omega) hv (start_below w 0 line))
  clear hc hv
  go_enter Tryz.func11, Tryz.ntmps11
  go_wp2_with (first
    | (go_at_call 15; (first | refine (isDigit_yes _ _ _d0).mono ?_); rintro e w2 ⟨rfl, hw⟩; have hw2 := hw.symm; subst hw2)
    | (go_at_call 16; refine (number_no B b o cap line s x _ HC.out HV.out hcond hf).mono ?_; rintro e w3 ⟨⟨a, rfl⟩, hb3⟩; obtain ⟨⟨p0, p1, p2, p3, p4, p5⟩, q0, q1, q2, q3, q4, q5⟩ := first_kept (w := w) (k := 0) (line := line) hb3))
  (try simp only [Exit.inBlock, Exit.then])
  refine bodyPost_ret (by simp [results, Tryz.results11, go_sem, p0, p1, p2, p3, p4, p5]; try rfl) rfl ?_
  refine ⟨⟨a, rfl⟩, ?_⟩
  repeat (refine Below.setCell ?_ (by first | exact Nat.le_refl _ | exact Nat.le_add_right _ _) _)
  exact start_kept hb3

set_option maxHeartbeats 1000000 in
theorem atom_num_pos_y (B b o cap : Nat) (line : Int) (s : ByteArray) (w : World) (hc0 : Came w B b o cap line s) (x : Addr) (hv : w.var? Tryz.prog "strconv.ErrRange" = some #[.iface 87 (.pointer (some x))]) (hcond : Hid (numCond s.data.toList = true)) (h1 : 0 < s.size) (_n1 : ¬ s.toList = [110, 105, 108]) (_n2 : (s.toList == [110, 105, 108]) = false) (_t1 : ¬ s.toList = [116, 114, 117, 101]) (_t2 : (s.toList == [116, 114, 117, 101]) = false) (_f1 : ¬ s.toList = [102, 97, 108, 115, 101]) (_f2 : (s.toList == [102, 97, 108, 115, 101]) = false) (_b1 : ((s[0].toNat : Int) == 58) = false) (_b2 : ¬ (s[0].toNat : Int) = 58) (_d0 : (decide ((48 : Int) ≤ (s[0].toNat : Int)) && decide ((s[0].toNat : Int) ≤ 57)) = false) (_l1 : (1 : Int) < (s.size : Int)) (_l2 : 1 < s.size) (_p : (s[0].toNat : Int) = 43) (_d1 : (decide ((48 : Int) ≤ (s[1].toNat : Int)) && decide ((s[1].toNat : Int) ≤ 57)) = true) (f : Form) (hf : Hid (numL s.data.toList = some f)) :
    Calls Tryz.prog 11 #[.pointer (some ⟨B, 0, none⟩)] w fun e w' => e = .returned (.tuple #[formV line f, .nilIface]) ∧ Below w.heap.size w w' := by
  obtain ⟨hb, hB, hl, htk, hc, hs, hcap, _⟩ := hc0
  have h1i : (0 : Int) < (s.size : Int) := by omega
  have HW : Hid (Bytes ((w.alloc (.cells #[.int .u8 0, .int .i64 0, .string ⟨#[]⟩, .int .i64 0, .bool false, .slice none 0 0] 43)).alloc (.cells #[.int .u8 0, .int .i64 line, .string ⟨#[]⟩, .int .i64 0, .bool false, .slice none 0 0] 43)) b o s) := hideP (bytes_kept hc hb (start_below w 0 line))
  have hcv := run_convert_whole (P := Tryz.prog) _ 22 5 9 Tryz.underlying22 Tryz.underlying5 Tryz.underlying9 b o s HW.out cap
  have hz0 : ((w.alloc (.cells #[.int .u8 0, .int .i64 0, .string ⟨#[]⟩, .int .i64 0, .bool false, .slice none 0 0] 43)).alloc (.cells #[.int .u8 0, .int .i64 line, .string ⟨#[]⟩, .int .i64 0, .bool false, .slice none 0 0] 43)).cell? ⟨b, o, none⟩ = some (.int .u8 (s[0].toNat : Int)) := HW.out 0 h1
  have hz1 : ((w.alloc (.cells #[.int .u8 0, .int .i64 0, .string ⟨#[]⟩, .int .i64 0, .bool false, .slice none 0 0] 43)).alloc (.cells #[.int .u8 0, .int .i64 line, .string ⟨#[]⟩, .int .i64 0, .bool false, .slice none 0 0] 43)).cell? ⟨b, o + 1, none⟩ = some (.int .u8 (s[1].toNat : Int)) := HW.out 1 _l2
  have HC : Hid (Came ((w.alloc (.cells #[.int .u8 0, .int .i64 0, .string ⟨#[]⟩, .int .i64 0, .bool false, .slice none 0 0] 43)).alloc (.cells #[.int .u8 0, .int .i64 line, .string ⟨#[]⟩, .int .i64 0, .bool false, .slice none 0 0] 43)) B b o cap line s) := hideP (came_kept ⟨hb, hB, hl, htk, hc, hs, hcap, h1⟩ (start_below w 0 line))
  have HV : Hid (((w.alloc (.cells #[.int .u8 0, .int .i64 0, .string ⟨#[]⟩, .int .i64 0, .bool false, .slice none 0 0] 43)).alloc (.cells #[.int .u8 0, .int .i64 line, .string ⟨#[]⟩, .int .i64 0, .bool false, .slice none 0 0] 43)).var? Tryz.prog "strconv.ErrRange" = some #[.iface 87 (.pointer (some x))]) := hideP (var_kept (by omega) hv (start_below w 0 line))
  clear hc hv
  go_enter Tryz.func11, Tryz.ntmps11
  go_wp2_with (first
    | (go_at_call 15; (first | (have _g := flag; clear _g; refine (isDigit_yes _ _ _d1).mono ?_) | (refine (isDigit_no 43 _ (by decide)).mono ?_; have flag : Hid True := hideP trivial)); rintro e w2 ⟨rfl, hw⟩; have hw2 := hw.symm; subst hw2)
    | (go_at_call 16; refine (number_yes B b o cap line s x _ HC.out HV.out hcond f hf).mono ?_; rintro e w3 ⟨rfl, hb3⟩; obtain ⟨⟨p0, p1, p2, p3, p4, p5⟩, q0, q1, q2, q3, q4, q5⟩ := first_kept (w := w) (k := 0) (line := line) hb3))
  (try simp only [Exit.inBlock, Exit.then])
  refine bodyPost_ret (by simp [results, Tryz.results11, go_sem, p0, p1, p2, p3, p4, p5]; try rfl) rfl ?_
  refine ⟨rfl, ?_⟩
  repeat (refine Below.setCell ?_ (by first | exact Nat.le_refl _ | exact Nat.le_add_right _ _) _)
  exact start_kept hb3

set_option maxHeartbeats 1000000 in
theorem atom_num_pos_n (B b o cap : Nat) (line : Int) (s : ByteArray) (w : World) (hc0 : Came w B b o cap line s) (x : Addr) (hv : w.var? Tryz.prog "strconv.ErrRange" = some #[.iface 87 (.pointer (some x))]) (hcond : Hid (numCond s.data.toList = true)) (h1 : 0 < s.size) (_n1 : ¬ s.toList = [110, 105, 108]) (_n2 : (s.toList == [110, 105, 108]) = false) (_t1 : ¬ s.toList = [116, 114, 117, 101]) (_t2 : (s.toList == [116, 114, 117, 101]) = false) (_f1 : ¬ s.toList = [102, 97, 108, 115, 101]) (_f2 : (s.toList == [102, 97, 108, 115, 101]) = false) (_b1 : ((s[0].toNat : Int) == 58) = false) (_b2 : ¬ (s[0].toNat : Int) = 58) (_d0 : (decide ((48 : Int) ≤ (s[0].toNat : Int)) && decide ((s[0].toNat : Int) ≤ 57)) = false) (_l1 : (1 : Int) < (s.size : Int)) (_l2 : 1 < s.size) (_p : (s[0].toNat : Int) = 43) (_d1 : (decide ((48 : Int) ≤ (s[1].toNat : Int)) && decide ((s[1].toNat : Int) ≤ 57)) = true) (hf : Hid (numL s.data.toList = none)) :
    Calls Tryz.prog 11 #[.pointer (some ⟨B, 0, none⟩)] w fun e w' => (∃ a, e = .returned (.tuple #[zeroV, .iface 47 (.pointer (some a))])) ∧ Below w.heap.size w w' := by
  obtain ⟨hb, hB, hl, htk, hc, hs, hcap, _⟩ := hc0
  have h1i : (0 : Int) < (s.size : Int) := by omega
  have HW : Hid (Bytes ((w.alloc (.cells #[.int .u8 0, .int .i64 0, .string ⟨#[]⟩, .int .i64 0, .bool false, .slice none 0 0] 43)).alloc (.cells #[.int .u8 0, .int .i64 line, .string ⟨#[]⟩, .int .i64 0, .bool false, .slice none 0 0] 43)) b o s) := hideP (bytes_kept hc hb (start_below w 0 line))
  have hcv := run_convert_whole (P := Tryz.prog) _ 22 5 9 Tryz.underlying22 Tryz.underlying5 Tryz.underlying9 b o s HW.out cap
  have hz0 : ((w.alloc (.cells #[.int .u8 0, .int .i64 0, .string ⟨#[]⟩, .int .i64 0, .bool false, .slice none 0 0] 43)).alloc (.cells #[.int .u8 0, .int .i64 line, .string ⟨#[]⟩, .int .i64 0, .bool false, .slice none 0 0] 43)).cell? ⟨b, o, none⟩ = some (.int .u8 (s[0].toNat : Int)) := HW.out 0 h1
  have hz1 : ((w.alloc (.cells #[.int .u8 0, .int .i64 0, .string ⟨#[]⟩, .int .i64 0, .bool false, .slice none 0 0] 43)).alloc (.cells #[.int .u8 0, .int .i64 line, .string ⟨#[]⟩, .int .i64 0, .bool false, .slice none 0 0] 43)).cell? ⟨b, o + 1, none⟩ = some (.int .u8 (s[1].toNat : Int)) := HW.out 1 _l2
  have HC : Hid (Came ((w.alloc (.cells #[.int .u8 0, .int .i64 0, .string ⟨#[]⟩, .int .i64 0, .bool false, .slice none 0 0] 43)).alloc (.cells #[.int .u8 0, .int .i64 line, .string ⟨#[]⟩, .int .i64 0, .bool false, .slice none 0 0] 43)) B b o cap line s) := hideP (came_kept ⟨hb, hB, hl, htk, hc, hs, hcap, h1⟩ (start_below w 0 line))
  have HV : Hid (((w.alloc (.cells #[.int .u8 0, .int .i64 0, .string ⟨#[]⟩, .int .i64 0, .bool false, .slice none 0 0] 43)).alloc (.cells #[.int .u8 0, .int .i64 line, .string ⟨#[]⟩, .int .i64 0, .bool false, .slice none 0 0] 43)).var? Tryz.prog "strconv.ErrRange" = some #[.iface 87 (.pointer (some x))]) := hideP (var_kept (by omega) hv (start_below w 0 line))
  clear hc hv
  go_enter Tryz.func11, Tryz.ntmps11
  go_wp2_with (first
    | (go_at_call 15; (first | (have _g := flag; clear _g; refine (isDigit_yes _ _ _d1).mono ?_) | (refine (isDigit_no 43 _ (by decide)).mono ?_; have flag : Hid True := hideP trivial)); rintro e w2 ⟨rfl, hw⟩; have hw2 := hw.symm; subst hw2)
    | (go_at_call 16; refine (number_no B b o cap line s x _ HC.out HV.out hcond hf).mono ?_; rintro e w3 ⟨⟨a, rfl⟩, hb3⟩; obtain ⟨⟨p0, p1, p2, p3, p4, p5⟩, q0, q1, q2, q3, q4, q5⟩ := first_kept (w := w) (k := 0) (line := line) hb3))
  (try simp only [Exit.inBlock, Exit.then])
  refine bodyPost_ret (by simp [results, Tryz.results11, go_sem, p0, p1, p2, p3, p4, p5]; try rfl) rfl ?_
  refine ⟨⟨a, rfl⟩, ?_⟩
  repeat (refine Below.setCell ?_ (by first | exact Nat.le_refl _ | exact Nat.le_add_right _ _) _)
  exact start_kept hb3

set_option maxHeartbeats 1000000 in
theorem atom_num_neg_y (B b o cap : Nat) (line : Int) (s : ByteArray) (w : World) (hc0 : Came w B b o cap line s) (x : Addr) (hv : w.var? Tryz.prog "strconv.ErrRange" = some #[.iface 87 (.pointer (some x))]) (hcond : Hid (numCond s.data.toList = true)) (h1 : 0 < s.size) (_n1 : ¬ s.toList = [110, 105, 108]) (_n2 : (s.toList == [110, 105, 108]) = false) (_t1 : ¬ s.toList = [116, 114, 117, 101]) (_t2 : (s.toList == [116, 114, 117, 101]) = false) (_f1 : ¬ s.toList = [102, 97, 108, 115, 101]) (_f2 : (s.toList == [102, 97, 108, 115, 101]) = false) (_b1 : ((s[0].toNat : Int) == 58) = false) (_b2 : ¬ (s[0].toNat : Int) = 58) (_d0 : (decide ((48 : Int) ≤ (s[0].toNat : Int)) && decide ((s[0].toNat : Int) ≤ 57)) = false) (_l1 : (1 : Int) < (s.size : Int)) (_l2 : 1 < s.size) (_p : ¬ (s[0].toNat : Int) = 43) (_p2 : ((s[0].toNat : Int) == 43) = false) (_q : (s[0].toNat : Int) = 45) (_d1 : (decide ((48 : Int) ≤ (s[1].toNat : Int)) && decide ((s[1].toNat : Int) ≤ 57)) = true) (f : Form) (hf : Hid (numL s.data.toList = some f)) :
    Calls Tryz.prog 11 #[.pointer (some ⟨B, 0, none⟩)] w fun e w' => e = .returned (.tuple #[formV line f, .nilIface]) ∧ Below w.heap.size w w' := by
  obtain ⟨hb, hB, hl, htk, hc, hs, hcap, _⟩ := hc0
  have h1i : (0 : Int) < (s.size : Int) := by omega
  have HW : Hid (Bytes ((w.alloc (.cells #[.int .u8 0, .int .i64 0, .string ⟨#[]⟩, .int .i64 0, .bool false, .slice none 0 0] 43)).alloc (.cells #[.int .u8 0, .int .i64 line, .string ⟨#[]⟩, .int .i64 0, .bool false, .slice none 0 0] 43)) b o s) := hideP (bytes_kept hc hb (start_below w 0 line))
  have hcv := run_convert_whole (P := Tryz.prog) _ 22 5 9 Tryz.underlying22 Tryz.underlying5 Tryz.underlying9 b o s HW.out cap
  have hz0 : ((w.alloc (.cells #[.int .u8 0, .int .i64 0, .string ⟨#[]⟩, .int .i64 0, .bool false, .slice none 0 0] 43)).alloc (.cells #[.int .u8 0, .int .i64 line, .string ⟨#[]⟩, .int .i64 0, .bool false, .slice none 0 0] 43)).cell? ⟨b, o, none⟩ = some (.int .u8 (s[0].toNat : Int)) := HW.out 0 h1
  have hz1 : ((w.alloc (.cells #[.int .u8 0, .int .i64 0, .string ⟨#[]⟩, .int .i64 0, .bool false, .slice none 0 0] 43)).alloc (.cells #[.int .u8 0, .int .i64 line, .string ⟨#[]⟩, .int .i64 0, .bool false, .slice none 0 0] 43)).cell? ⟨b, o + 1, none⟩ = some (.int .u8 (s[1].toNat : Int)) := HW.out 1 _l2
  have HC : Hid (Came ((w.alloc (.cells #[.int .u8 0, .int .i64 0, .string ⟨#[]⟩, .int .i64 0, .bool false, .slice none 0 0] 43)).alloc (.cells #[.int .u8 0, .int .i64 line, .string ⟨#[]⟩, .int .i64 0, .bool false, .slice none 0 0] 43)) B b o cap line s) := hideP (came_kept ⟨hb, hB, hl, htk, hc, hs, hcap, h1⟩ (start_below w 0 line))
  have HV : Hid (((w.alloc (.cells #[.int .u8 0, .int .i64 0, .string ⟨#[]⟩, .int .i64 0, .bool false, .slice none 0 0] 43)).alloc (.cells #[.int .u8 0, .int .i64 line, .string ⟨#[]⟩, .int .i64 0, .bool false, .slice none 0 0] 43)).var? Tryz.prog "strconv.ErrRange" = some #[.iface 87 (.pointer (some x))]) := hideP (var_kept (by omega) hv (start_below w 0 line))
  clear hc hv
  go_enter Tryz.func11, Tryz.ntmps11
  go_wp2_with (first
    | (go_at_call 15; (first | (have _g := flag; clear _g; refine (isDigit_yes _ _ _d1).mono ?_) | (refine (isDigit_no 45 _ (by decide)).mono ?_; have flag : Hid True := hideP trivial)); rintro e w2 ⟨rfl, hw⟩; have hw2 := hw.symm; subst hw2)
    | (go_at_call 16; refine (number_yes B b o cap line s x _ HC.out HV.out hcond f hf).mono ?_; rintro e w3 ⟨rfl, hb3⟩; obtain ⟨⟨p0, p1, p2, p3, p4, p5⟩, q0, q1, q2, q3, q4, q5⟩ := first_kept (w := w) (k := 0) (line := line) hb3))
  (try simp only [Exit.inBlock, Exit.then])
  refine bodyPost_ret (by simp [results, Tryz.results11, go_sem, p0, p1, p2, p3, p4, p5]; try rfl) rfl ?_
  refine ⟨rfl, ?_⟩
  repeat (refine Below.setCell ?_ (by first | exact Nat.le_refl _ | exact Nat.le_add_right _ _) _)
  exact start_kept hb3

set_option maxHeartbeats 1000000 in
theorem atom_num_neg_n (B b o cap : Nat) (line : Int) (s : ByteArray) (w : World) (hc0 : Came w B b o cap line s) (x : Addr) (hv : w.var? Tryz.prog "strconv.ErrRange" = some #[.iface 87 (.pointer (some x))]) (hcond : Hid (numCond s.data.toList = true)) (h1 : 0 < s.size) (_n1 : ¬ s.toList = [110, 105, 108]) (_n2 : (s.toList == [110, 105, 108]) = false) (_t1 : ¬ s.toList = [116, 114, 117, 101]) (_t2 : (s.toList == [116, 114, 117, 101]) = false) (_f1 : ¬ s.toList = [102, 97, 108, 115, 101]) (_f2 : (s.toList == [102, 97, 108, 115, 101]) = false) (_b1 : ((s[0].toNat : Int) == 58) = false) (_b2 : ¬ (s[0].toNat : Int) = 58) (_d0 : (decide ((48 : Int) ≤ (s[0].toNat : Int)) && decide ((s[0].toNat : Int) ≤ 57)) = false) (_l1 : (1 : Int) < (s.size : Int)) (_l2 : 1 < s.size) (_p : ¬ (s[0].toNat : Int) = 43) (_p2 : ((s[0].toNat : Int) == 43) = false) (_q : (s[0].toNat : Int) = 45) (_d1 : (decide ((48 : Int) ≤ (s[1].toNat : Int)) && decide ((s[1].toNat : Int) ≤ 57)) = true) (hf : Hid (numL s.data.toList = none)) :
    Calls Tryz.prog 11 #[.pointer (some ⟨B, 0, none⟩)] w fun e w' => (∃ a, e = .returned (.tuple #[zeroV, .iface 47 (.pointer (some a))])) ∧ Below w.heap.size w w' := by
  obtain ⟨hb, hB, hl, htk, hc, hs, hcap, _⟩ := hc0
  have h1i : (0 : Int) < (s.size : Int) := by omega
  have HW : Hid (Bytes ((w.alloc (.cells #[.int .u8 0, .int .i64 0, .string ⟨#[]⟩, .int .i64 0, .bool false, .slice none 0 0] 43)).alloc (.cells #[.int .u8 0, .int .i64 line, .string ⟨#[]⟩, .int .i64 0, .bool false, .slice none 0 0] 43)) b o s) := hideP (bytes_kept hc hb (start_below w 0 line))
  have hcv := run_convert_whole (P := Tryz.prog) _ 22 5 9 Tryz.underlying22 Tryz.underlying5 Tryz.underlying9 b o s HW.out cap
  have hz0 : ((w.alloc (.cells #[.int .u8 0, .int .i64 0, .string ⟨#[]⟩, .int .i64 0, .bool false, .slice none 0 0] 43)).alloc (.cells #[.int .u8 0, .int .i64 line, .string ⟨#[]⟩, .int .i64 0, .bool false, .slice none 0 0] 43)).cell? ⟨b, o, none⟩ = some (.int .u8 (s[0].toNat : Int)) := HW.out 0 h1
  have hz1 : ((w.alloc (.cells #[.int .u8 0, .int .i64 0, .string ⟨#[]⟩, .int .i64 0, .bool false, .slice none 0 0] 43)).alloc (.cells #[.int .u8 0, .int .i64 line, .string ⟨#[]⟩, .int .i64 0, .bool false, .slice none 0 0] 43)).cell? ⟨b, o + 1, none⟩ = some (.int .u8 (s[1].toNat : Int)) := HW.out 1 _l2
  have HC : Hid (Came ((w.alloc (.cells #[.int .u8 0, .int .i64 0, .string ⟨#[]⟩, .int .i64 0, .bool false, .slice none 0 0] 43)).alloc (.cells #[.int .u8 0, .int .i64 line, .string ⟨#[]⟩, .int .i64 0, .bool false, .slice none 0 0] 43)) B b o cap line s) := hideP (came_kept ⟨hb, hB, hl, htk, hc, hs, hcap, h1⟩ (start_below w 0 line))
  have HV : Hid (((w.alloc (.cells #[.int .u8 0, .int .i64 0, .string ⟨#[]⟩, .int .i64 0, .bool false, .slice none 0 0] 43)).alloc (.cells #[.int .u8 0, .int .i64 line, .string ⟨#[]⟩, .int .i64 0, .bool false, .slice none 0 0] 43)).var? Tryz.prog "strconv.ErrRange" = some #[.iface 87 (.pointer (some x))]) := hideP (var_kept (by omega) hv (start_below w 0 line))
  clear hc hv
  go_enter Tryz.func11, Tryz.ntmps11
  go_wp2_with (first
    | (go_at_call 15; (first | (have _g := flag; clear _g; refine (isDigit_yes _ _ _d1).mono ?_) | (refine (isDigit_no 45 _ (by decide)).mono ?_; have flag : Hid True := hideP trivial)); rintro e w2 ⟨rfl, hw⟩; have hw2 := hw.symm; subst hw2)
    | (go_at_call 16; refine (number_no B b o cap line s x _ HC.out HV.out hcond hf).mono ?_; rintro e w3 ⟨⟨a, rfl⟩, hb3⟩; obtain ⟨⟨p0, p1, p2, p3, p4, p5⟩, q0, q1, q2, q3, q4, q5⟩ := first_kept (w := w) (k := 0) (line := line) hb3))
  (try simp only [Exit.inBlock, Exit.then])
  refine bodyPost_ret (by simp [results, Tryz.results11, go_sem, p0, p1, p2, p3, p4, p5]; try rfl) rfl ?_
  refine ⟨⟨a, rfl⟩, ?_⟩
  repeat (refine Below.setCell ?_ (by first | exact Nat.le_refl _ | exact Nat.le_add_right _ _) _)
  exact start_kept hb3

set_option maxHeartbeats 1000000 in
theorem atom_key_one (B b o cap : Nat) (line : Int) (s : ByteArray) (w : World) (hc0 : Came w B b o cap line s)  (h1 : 0 < s.size) (_n1 : ¬ s.toList = [110, 105, 108]) (_n2 : (s.toList == [110, 105, 108]) = false) (_t1 : ¬ s.toList = [116, 114, 117, 101]) (_t2 : (s.toList == [116, 114, 117, 101]) = false) (_f1 : ¬ s.toList = [102, 97, 108, 115, 101]) (_f2 : (s.toList == [102, 97, 108, 115, 101]) = false) (_b1 : (s[0].toNat : Int) = 58) (_l1 : ((s.size : Int) == 1) = true) :
    Calls Tryz.prog 11 #[.pointer (some ⟨B, 0, none⟩)] w fun e w' => (∃ a, e = .returned (.tuple #[zeroV, .iface 47 (.pointer (some a))])) ∧ Below w.heap.size w w' := by
  obtain ⟨hb, hB, hl, htk, hc, hs, hcap, _⟩ := hc0
  have h1i : (0 : Int) < (s.size : Int) := by omega
  have HW : Hid (Bytes ((w.alloc (.cells #[.int .u8 0, .int .i64 0, .string ⟨#[]⟩, .int .i64 0, .bool false, .slice none 0 0] 43)).alloc (.cells #[.int .u8 0, .int .i64 line, .string ⟨#[]⟩, .int .i64 0, .bool false, .slice none 0 0] 43)) b o s) := hideP (bytes_kept hc hb (start_below w 0 line))
  have hcv := run_convert_whole (P := Tryz.prog) _ 22 5 9 Tryz.underlying22 Tryz.underlying5 Tryz.underlying9 b o s HW.out cap
  have HWd : Hid (Bytes ((w.alloc (.cells #[.int .u8 0, .int .i64 0, .string ⟨#[]⟩, .int .i64 0, .bool false, .slice none 0 0] 43)).alloc (.cells #[.int .u8 0, .int .i64 line, .string ⟨#[]⟩, .int .i64 0, .bool false, .slice none 0 0] 43)).drew b o s) := hideP (bytes_kept hc hb (start_below w 0 line).drew)
  have hcvd := run_convert_whole (P := Tryz.prog) _ 22 5 9 Tryz.underlying22 Tryz.underlying5 Tryz.underlying9 b o s HWd.out cap
  have hz0 : ((w.alloc (.cells #[.int .u8 0, .int .i64 0, .string ⟨#[]⟩, .int .i64 0, .bool false, .slice none 0 0] 43)).alloc (.cells #[.int .u8 0, .int .i64 line, .string ⟨#[]⟩, .int .i64 0, .bool false, .slice none 0 0] 43)).cell? ⟨b, o, none⟩ = some (.int .u8 (s[0].toNat : Int)) := HW.out 0 h1
  clear hc
  go_enter Tryz.func11, Tryz.ntmps11
  go_wp2
  go_region_with (go_at_call 13; refine (err_key line s _ ?_).mono ?_; exact hs; rintro e w5 ⟨⟨a, rfl⟩, hb5'⟩; have hb5 := drew_first (w := w) (k := 0) (line := line) hb5'; obtain ⟨⟨p0, p1, p2, p3, p4, p5⟩, q0, q1, q2, q3, q4, q5⟩ := first_kept hb5)
  all_goals (try go_wp2)
  all_goals (try simp only [Exit.inBlock, Exit.then])
  all_goals (refine bodyPost_ret (by simp [results, Tryz.results11, go_sem, p0, p1, p2, p3, p4, p5]; try rfl) rfl ?_)
  all_goals refine ⟨⟨a, rfl⟩, ?_⟩
  all_goals (repeat (refine Below.setCell ?_ (by first | exact Nat.le_refl _ | exact Nat.le_add_right _ _) _))
  all_goals exact start_kept hb5

set_option maxHeartbeats 1000000 in
theorem atom_key_two (B b o cap : Nat) (line : Int) (s : ByteArray) (w : World) (hc0 : Came w B b o cap line s)  (h1 : 0 < s.size) (_n1 : ¬ s.toList = [110, 105, 108]) (_n2 : (s.toList == [110, 105, 108]) = false) (_t1 : ¬ s.toList = [116, 114, 117, 101]) (_t2 : (s.toList == [116, 114, 117, 101]) = false) (_f1 : ¬ s.toList = [102, 97, 108, 115, 101]) (_f2 : (s.toList == [102, 97, 108, 115, 101]) = false) (_b1 : (s[0].toNat : Int) = 58) (_l1 : ((s.size : Int) == 1) = false) (_l3 : (1 : Int) < (s.size : Int)) (_l2 : 1 < s.size) (_c1 : (s[1].toNat : Int) = 58) :
    Calls Tryz.prog 11 #[.pointer (some ⟨B, 0, none⟩)] w fun e w' => (∃ a, e = .returned (.tuple #[zeroV, .iface 47 (.pointer (some a))])) ∧ Below w.heap.size w w' := by
  obtain ⟨hb, hB, hl, htk, hc, hs, hcap, _⟩ := hc0
  have h1i : (0 : Int) < (s.size : Int) := by omega
  have HW : Hid (Bytes ((w.alloc (.cells #[.int .u8 0, .int .i64 0, .string ⟨#[]⟩, .int .i64 0, .bool false, .slice none 0 0] 43)).alloc (.cells #[.int .u8 0, .int .i64 line, .string ⟨#[]⟩, .int .i64 0, .bool false, .slice none 0 0] 43)) b o s) := hideP (bytes_kept hc hb (start_below w 0 line))
  have hcv := run_convert_whole (P := Tryz.prog) _ 22 5 9 Tryz.underlying22 Tryz.underlying5 Tryz.underlying9 b o s HW.out cap
  have HWd : Hid (Bytes ((w.alloc (.cells #[.int .u8 0, .int .i64 0, .string ⟨#[]⟩, .int .i64 0, .bool false, .slice none 0 0] 43)).alloc (.cells #[.int .u8 0, .int .i64 line, .string ⟨#[]⟩, .int .i64 0, .bool false, .slice none 0 0] 43)).drew b o s) := hideP (bytes_kept hc hb (start_below w 0 line).drew)
  have hcvd := run_convert_whole (P := Tryz.prog) _ 22 5 9 Tryz.underlying22 Tryz.underlying5 Tryz.underlying9 b o s HWd.out cap
  have hz0 : ((w.alloc (.cells #[.int .u8 0, .int .i64 0, .string ⟨#[]⟩, .int .i64 0, .bool false, .slice none 0 0] 43)).alloc (.cells #[.int .u8 0, .int .i64 line, .string ⟨#[]⟩, .int .i64 0, .bool false, .slice none 0 0] 43)).cell? ⟨b, o, none⟩ = some (.int .u8 (s[0].toNat : Int)) := HW.out 0 h1
  have hz1 : ((w.alloc (.cells #[.int .u8 0, .int .i64 0, .string ⟨#[]⟩, .int .i64 0, .bool false, .slice none 0 0] 43)).alloc (.cells #[.int .u8 0, .int .i64 line, .string ⟨#[]⟩, .int .i64 0, .bool false, .slice none 0 0] 43)).cell? ⟨b, o + 1, none⟩ = some (.int .u8 (s[1].toNat : Int)) := HW.out 1 _l2
  clear hc
  go_enter Tryz.func11, Tryz.ntmps11
  go_wp2
  go_region_with (go_at_call 13; refine (err_key line s _ ?_).mono ?_; exact hs; rintro e w5 ⟨⟨a, rfl⟩, hb5'⟩; have hb5 := drew_first (w := w) (k := 0) (line := line) hb5'; obtain ⟨⟨p0, p1, p2, p3, p4, p5⟩, q0, q1, q2, q3, q4, q5⟩ := first_kept hb5)
  all_goals (try go_wp2)
  all_goals (try simp only [Exit.inBlock, Exit.then])
  all_goals (refine bodyPost_ret (by simp [results, Tryz.results11, go_sem, p0, p1, p2, p3, p4, p5]; try rfl) rfl ?_)
  all_goals refine ⟨⟨a, rfl⟩, ?_⟩
  all_goals (repeat (refine Below.setCell ?_ (by first | exact Nat.le_refl _ | exact Nat.le_add_right _ _) _))
  all_goals exact start_kept hb5

set_option maxHeartbeats 1000000 in
theorem atom_key_ok (B b o cap : Nat) (line : Int) (s : ByteArray) (w : World) (hc0 : Came w B b o cap line s) (M : Nat) (hM : w.heap[M]? = some (.map #[] 0)) (hMw : M < w.heap.size) (hkw : w.cell? ⟨B, 11, none⟩ = some (.map (some M))) (t : ByteArray) (htt : s.extract 1 s.size = t) (hts : s.size - 1 = t.size) (h1 : 0 < s.size) (_n1 : ¬ s.toList = [110, 105, 108]) (_n2 : (s.toList == [110, 105, 108]) = false) (_t1 : ¬ s.toList = [116, 114, 117, 101]) (_t2 : (s.toList == [116, 114, 117, 101]) = false) (_f1 : ¬ s.toList = [102, 97, 108, 115, 101]) (_f2 : (s.toList == [102, 97, 108, 115, 101]) = false) (_b1 : (s[0].toNat : Int) = 58) (_l1 : ((s.size : Int) == 1) = false) (_l3 : (1 : Int) < (s.size : Int)) (_l2 : 1 < s.size) (_c1 : ¬ (s[1].toNat : Int) = 58) (_c2 : ((s[1].toNat : Int) == 58) = false) :
    Calls Tryz.prog 11 #[.pointer (some ⟨B, 0, none⟩)] w fun e w' => e = .returned (.tuple #[.agg #[.int .u8 6, .int .i64 line, .string t, .int .i64 0, .bool false, .slice none 0 0], .nilIface]) ∧ Below M w w' := by
  obtain ⟨hb, hB, hl, htk, hc, hs, hcap, _⟩ := hc0
  have h1i : (0 : Int) < (s.size : Int) := by omega
  have HW : Hid (Bytes ((w.alloc (.cells #[.int .u8 0, .int .i64 0, .string ⟨#[]⟩, .int .i64 0, .bool false, .slice none 0 0] 43)).alloc (.cells #[.int .u8 0, .int .i64 line, .string ⟨#[]⟩, .int .i64 0, .bool false, .slice none 0 0] 43)) b o s) := hideP (bytes_kept hc hb (start_below w 0 line))
  have hcv := run_convert_whole (P := Tryz.prog) _ 22 5 9 Tryz.underlying22 Tryz.underlying5 Tryz.underlying9 b o s HW.out cap
  have hz0 : ((w.alloc (.cells #[.int .u8 0, .int .i64 0, .string ⟨#[]⟩, .int .i64 0, .bool false, .slice none 0 0] 43)).alloc (.cells #[.int .u8 0, .int .i64 line, .string ⟨#[]⟩, .int .i64 0, .bool false, .slice none 0 0] 43)).cell? ⟨b, o, none⟩ = some (.int .u8 (s[0].toNat : Int)) := HW.out 0 h1
  have hz1 : ((w.alloc (.cells #[.int .u8 0, .int .i64 0, .string ⟨#[]⟩, .int .i64 0, .bool false, .slice none 0 0] 43)).alloc (.cells #[.int .u8 0, .int .i64 line, .string ⟨#[]⟩, .int .i64 0, .bool false, .slice none 0 0] 43)).cell? ⟨b, o + 1, none⟩ = some (.int .u8 (s[1].toNat : Int)) := HW.out 1 _l2
  have HT : Hid (Bytes ((w.alloc (.cells #[.int .u8 0, .int .i64 0, .string ⟨#[]⟩, .int .i64 0, .bool false, .slice none 0 0] 43)).alloc (.cells #[.int .u8 0, .int .i64 line, .string ⟨#[]⟩, .int .i64 0, .bool false, .slice none 0 0] 43)) b (o + 1) t) := hideP (by rw [← htt]; exact bytes_tail HW.out)
  have HM : Hid (((w.alloc (.cells #[.int .u8 0, .int .i64 0, .string ⟨#[]⟩, .int .i64 0, .bool false, .slice none 0 0] 43)).alloc (.cells #[.int .u8 0, .int .i64 line, .string ⟨#[]⟩, .int .i64 0, .bool false, .slice none 0 0] 43)).heap[M]? = some (.map #[] 0)) := hideP (((start_below w 0 line).block M hMw).trans hM)
  have HK : Hid (((w.alloc (.cells #[.int .u8 0, .int .i64 0, .string ⟨#[]⟩, .int .i64 0, .bool false, .slice none 0 0] 43)).alloc (.cells #[.int .u8 0, .int .i64 line, .string ⟨#[]⟩, .int .i64 0, .bool false, .slice none 0 0] 43)).cell? ⟨B, 11, none⟩ = some (.map (some M))) := hideP (((start_below w 0 line).cell (p := ⟨B, 11, none⟩) hB).trans hkw)
  have HS : Hid (s.size - 1 = t.size) := hideP hts
  have hts2 : t.size ≤ 131072 := by omega
  clear hc hts hM hkw
  go_enter Tryz.func11, Tryz.ntmps11
  go_wp2_with (go_at_call 14; refine (keyword_n B M b (o + 1) _ _ t _ HS.out hts2 HM.out HK.out HT.out).mono ?_; rintro e w5 ⟨rfl, hg'⟩; have HG : Hid ((start w 0 line).grownBy w5 (some M)) := hideP hg'; clear hg'; obtain ⟨⟨p0, p1, p2, p3, p4, p5⟩, q0, q1, q2, q3, q4, q5⟩ := grown_first hMw HG.out; obtain ⟨⟨u0, u1, u2, u3, u4, u5⟩, v0, v1, v2, v3, v4, v5⟩ := grown_second hMw HG.out)
  (try simp only [Exit.inBlock, Exit.then])
  refine bodyPost_ret (by simp [results, Tryz.results11, go_sem, p0, p1, p2, p3, p4, p5]; try rfl) rfl ?_
  refine ⟨rfl, ?_⟩
  repeat (refine Below.setCell ?_ (by first | exact Nat.le_of_lt hMw | exact Nat.le_of_lt (Nat.lt_succ_of_lt hMw)) _)
  exact grown_kept hMw HG.out

end Go.Proofs.Qxb6613685aGreatFmt
