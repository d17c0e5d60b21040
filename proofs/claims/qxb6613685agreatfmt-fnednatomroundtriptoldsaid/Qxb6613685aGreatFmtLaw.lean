/-
  The walk of the law.
-/
import Derived.Test.Qxb6613685aGreatFmtAtomS
import Derived.Test.Qxb6613685aGreatFmtWrite
import Derived.Laws.IdiomCopy
import Derived.Laws.MakeOwn
namespace Go.Proofs.Qxb6613685aGreatFmt
open Go.RowKit
open Go.Lib hiding intOf

/-! ### the bound, the copy, the bytes of a string -/
theorem bound_in (a : Option Addr) (n c : Nat) (line : Int) (w : World) (h : n ≤ 1048576) : Calls Tryz.prog 9 #[.slice a n c, .int .i64 line] w fun e w' => e = .returned (.bool true) ∧ w' = w := by
  have h1 : decide ((1048576 : Int) < (n : Int)) = false := decide_eq_false (by omega)
  go_enter Tryz.func9, Tryz.ntmps9
  go_wp2
  go_ret
  exact ⟨rfl, rfl⟩
theorem bound_out (a : Option Addr) (n c : Nat) (line : Int) (w : World) (h : 1048576 < n) : Calls Tryz.prog 9 #[.slice a n c, .int .i64 line] w fun e w' => e = .returned (.bool false) ∧ w' = w := by
  have h1 : (1048576 : Int) < (n : Int) := by omega
  go_enter Tryz.func9, Tryz.ntmps9
  go_wp2
  go_ret
  exact ⟨rfl, rfl⟩
theorem below_setCells {B b : Nat} {w0 : World} (hb : B ≤ b) : ∀ (vs : List Value) (o : Nat) (w : World), Below B w0 w → Below B w0 (w.setCells b o vs)
  | [], _, _, h => h
  | _ :: r, o, _, h => below_setCells hb r (o + 1) _ (h.setCell (p := ⟨b, o, none⟩) hb _)
theorem size_setCells (b : Nat) : ∀ (vs : List Value) (o : Nat) (w : World), (w.setCells b o vs).heap.size = w.heap.size
  | [], _, _ => rfl
  | _ :: r, o, _ => (size_setCells b r (o + 1) _).trans (World.size_setCell _ _ _)
theorem make_run (n : Nat) (w : World) (h : n ≤ 131072) :
    (Instr.makeSlice 22 (.int .i64 (n : Int)) (.int .i64 (n : Int))).run Tryz.prog w = .ok (.slice (some ⟨w.heap.size, 0, none⟩) n n) (w.alloc (.cells (madeCells #[.int .u8 0] n) 5)) := by
  have h := run_make (P := Tryz.prog) w 22 5 Tryz.t5 (.int .u8 0) Tryz.underlying22 (by kernel_rfl) rfl .i64 .i64 (n : Int) (n : Int) (by omega) (by omega) (by show (1 : Int) * _ ≤ _; omega) (by omega)
  rw [show ((n : Int)).toNat = n by omega, show n * Tryz.t5.size = n from Nat.mul_one _] at h
  exact h
theorem made_cell (n : Nat) (w : World) (j : Nat) (hj : j < n) : (w.alloc (.cells (madeCells #[.int .u8 0] n) 5)).cell? ⟨w.heap.size, j, none⟩ = some (.int .u8 0) := by
  have hg : (w.alloc (.cells (madeCells #[.int .u8 0] n) 5)).heap[w.heap.size]? = some (.cells (madeCells #[.int .u8 0] n) 5) := by
    show (w.heap.push _)[w.heap.size]? = _
    rw [Array.getElem?_push_size]
  unfold World.cell?
  rw [hg]
  simp [madeCells, hj, Nat.mod_one]
theorem made_frozen (n : Nat) (w : World) (j : Nat) : (w.alloc (.cells (madeCells #[.int .u8 0] n) 5)).frozen? ⟨w.heap.size, j, none⟩ = false := by
  have hg : (w.alloc (.cells (madeCells #[.int .u8 0] n) 5)).heap[w.heap.size]? = some (.cells (madeCells #[.int .u8 0] n) 5) := by
    show (w.heap.push _)[w.heap.size]? = _
    rw [Array.getElem?_push_size]
  unfold World.frozen?
  rw [hg]
  simp
theorem copy_run (s : ByteArray) (b o cap : Nat) (w : World) (hb : b < w.heap.size) (hc : Bytes w b o s) :
    ∃ w2, (∀ ty, (Builtin.copy_ #[22, 22] ty #[.slice (some ⟨w.heap.size, 0, none⟩) s.size s.size, .slice (some ⟨b, o, none⟩) s.size cap]).run Tryz.prog (w.alloc (.cells (madeCells #[.int .u8 0] s.size) 5)) = .ok (.int .i64 (s.size : Int)) w2) ∧
      Bytes w2 w.heap.size 0 s ∧ Below w.heap.size w w2 ∧ w.heap.size < w2.heap.size := by
  have hl : (byteCells s.data.toList).length = s.size := by rw [byteCells_length, data_length]
  have hbel : Below w.heap.size w (w.alloc (.cells (madeCells #[.int .u8 0] s.size) 5)) := (Below.refl _ _).alloc (Nat.le_refl _) _
  have hget : ∀ j, (hj : j < s.size) → (byteCells s.data.toList)[j]? = some (.int .u8 (s[j].toNat : Int)) := fun j hj => by
    unfold byteCells
    rw [List.getElem?_map, get_data s j hj]; rfl
  refine ⟨(w.alloc (.cells (madeCells #[.int .u8 0] s.size) 5)).setCells w.heap.size 0 (byteCells s.data.toList), fun ty => ?_, fun i hi => ?_, below_setCells (Nat.le_refl _) _ _ _ hbel, by rw [size_setCells, World.size_alloc]; omega⟩
  · have := run_copy_cells (P := Tryz.prog) (w.alloc (.cells (madeCells #[.int .u8 0] s.size) 5)) 22 22 ty 5 w.heap.size 0 s.size s.size ⟨b, o, none⟩ s.size cap (byteCells s.data.toList) Tryz.underlying22 (by kernel_rfl) (by rw [hl]; exact (Nat.min_self _).symm)
      (fun j v hv => by
        have hj : j < s.size := by
          rcases Nat.lt_or_ge j s.size with h | h
          · exact h
          · rw [List.getElem?_eq_none (by rw [hl]; exact h)] at hv; cases hv
        rw [hget j hj] at hv
        rw [← Option.some.inj hv]
        have e : (⟨b, o, none⟩ : Addr).add j = ⟨b, o + j, none⟩ := by unfold Addr.add; split <;> simp_all
        rw [e, hbel.cell (p := ⟨b, o + j, none⟩) hb]
        exact hc j hj)
      (fun j hj => by rw [Nat.zero_add, made_cell _ _ _ (by rw [← hl]; exact hj)]; rfl)
      (fun j _ => by rw [Nat.zero_add]; exact made_frozen _ _ _)
      (fun v hv => by
        unfold byteCells at hv
        obtain ⟨c, _, rfl⟩ := List.mem_map.mp hv
        rfl)
    rw [hl] at this
    exact this
  · have := World.cell?_setCells_in w.heap.size (byteCells s.data.toList) 0 (w.alloc (.cells (madeCells #[.int .u8 0] s.size) 5)) (fun j hj => by rw [Nat.zero_add, made_cell _ _ _ (by rw [← hl]; exact hj)]; rfl) i (by rw [hl]; exact hi)
    rw [this]
    have hg := hget i hi
    rw [List.getElem?_eq_getElem (by rw [hl]; exact hi)] at hg
    exact hg
theorem bytes_run (s : ByteArray) (w : World) : ∃ w2 cap, (convert 9 22 (.string s)).run Tryz.prog w = .ok (.slice (some ⟨w.heap.size, 0, none⟩) s.size cap) w2 ∧ Bytes w2 w.heap.size 0 s ∧ Below w.heap.size w w2 ∧ w.heap.size < w2.heap.size ∧ s.size ≤ cap := by
  refine ⟨_, _, Lib.run_convert_string_bytes w 9 22 5 s Tryz.underlying9 Tryz.underlying22 Tryz.underlying5, fun i hi => ?_, bytesWorld_below _ _ _, by rw [bytesWorld_size]; omega, grownCap_ge _ _ _ _⟩
  rw [Nat.zero_add, bytesWorld_cell _ _ _ _ hi]
  have := get_data s i hi
  rw [List.getD, this]; rfl


theorem law_long (a : Option Addr) (n c : Nat) (line : Int) (w : World) (h : 65536 < n) : Calls Tryz.prog 4 #[.slice a n c, .int .i64 line] w fun e w' => e = .returned (.bool true) ∧ Below w.heap.size w w' := by
  by_cases h1 : 1048576 < n
  · go_enter Tryz.func4, Tryz.ntmps4
    go_wp2_with (go_at_call 9; refine (bound_out _ _ _ _ _ h1).mono ?_; rintro e w1 ⟨rfl, hw⟩; have hw2 := hw.symm; subst hw2)
    go_ret
    exact ⟨rfl, Below.refl _ _⟩
  · have h2 : (65536 : Int) < (n : Int) := by omega
    have h3 : n ≤ 1048576 := by omega
    go_enter Tryz.func4, Tryz.ntmps4
    go_wp2_with (go_at_call 9; refine (bound_in _ _ _ _ _ h3).mono ?_; rintro e w1 ⟨rfl, hw⟩; have hw2 := hw.symm; subst hw2)
    go_ret
    exact ⟨rfl, Below.refl _ _⟩
theorem law_empty (a : Option Addr) (c : Nat) (line : Int) (w : World) : Calls Tryz.prog 4 #[.slice a 0 c, .int .i64 line] w fun e w' => e = .returned (.bool true) ∧ Below w.heap.size w w' := by
  go_enter Tryz.func4, Tryz.ntmps4
  go_wp2_with (go_at_call 9; refine (bound_in _ _ _ _ _ (by omega)).mono ?_; rintro e w1 ⟨rfl, hw⟩; have hw2 := hw.symm; subst hw2)
  go_ret
  exact ⟨rfl, Below.refl _ _⟩

set_option maxHeartbeats 1000000 in
theorem law_bad_one (b o cap : Nat) (line : Int) (s : ByteArray) (x : Addr) (w : World) (hb : b < w.heap.size) (hc : Bytes w b o s) (hs : s.size ≤ 65536) (h1 : 0 < s.size) (hv : w.var? Tryz.prog "strconv.ErrRange" = some #[.iface 87 (.pointer (some x))]) (hf : Hid (atomL s.data.toList = none)) (_b : (s[0].toNat : Int) = 58) (_l1 : ((s.size : Int) == 1) = true) :
    Calls Tryz.prog 4 #[.slice (some ⟨b, o, none⟩) s.size cap, .int .i64 line] w fun e w' => e = .returned (.bool true) ∧ Below w.heap.size w w' := by
  have l1 : decide ((65536 : Int) < (s.size : Int)) = false := decide_eq_false (by omega)
  have l2 : ((s.size : Int) == 0) = false := beq_no (by omega)
  have l0i : (0 : Int) < (s.size : Int) := by omega
  have hmk := make_run s.size w (by omega)
  obtain ⟨w2, hcp, hby, hbel, hsz⟩ := copy_run s b o cap w hb hc
  have HY : Hid (Bytes w2 w.heap.size 0 s) := hideP hby
  have HL : Hid (Below w.heap.size w w2) := hideP hbel
  have HV : Hid (w2.var? Tryz.prog "strconv.ErrRange" = some #[.iface 87 (.pointer (some x))]) := hideP (var_kept (by omega) hv hbel)
  clear hc hby hbel hv
  go_enter Tryz.func4, Tryz.ntmps4
  go_wp2_with (first
    | (go_at_call 9; refine (bound_in _ _ _ _ _ (by omega)).mono ?_; rintro e w1 ⟨rfl, hw⟩; have hw2 := hw.symm; subst hw2)
    | (go_at_call 6; refine (zz_no w.heap.size 0 _ line s x _ hsz HY.out (by omega) (Nat.le_refl _) h1 HV.out hf).mono ?_; rintro e w3 ⟨⟨a, rfl⟩, hw⟩; have HR : Hid (Below w2.heap.size w2 w3) := hideP hw; clear hw; have hz0 : w3.cell? ⟨w.heap.size, 0, none⟩ = some (.int .u8 (s[0].toNat : Int)) := bytes_kept HY.out hsz HR.out 0 h1))
  go_ret
  exact ⟨rfl, HL.out.trans (HR.out.mono HL.out.size)⟩

set_option maxHeartbeats 1000000 in
theorem law_bad_two (b o cap : Nat) (line : Int) (s : ByteArray) (x : Addr) (w : World) (hb : b < w.heap.size) (hc : Bytes w b o s) (hs : s.size ≤ 65536) (h1 : 0 < s.size) (hv : w.var? Tryz.prog "strconv.ErrRange" = some #[.iface 87 (.pointer (some x))]) (hf : Hid (atomL s.data.toList = none)) (_b : (s[0].toNat : Int) = 58) (_l1 : ((s.size : Int) == 1) = false) (_l3 : (1 : Int) < (s.size : Int)) (_l2 : 1 < s.size) (_c : (s[1].toNat : Int) = 58) :
    Calls Tryz.prog 4 #[.slice (some ⟨b, o, none⟩) s.size cap, .int .i64 line] w fun e w' => e = .returned (.bool true) ∧ Below w.heap.size w w' := by
  have l1 : decide ((65536 : Int) < (s.size : Int)) = false := decide_eq_false (by omega)
  have l2 : ((s.size : Int) == 0) = false := beq_no (by omega)
  have l0i : (0 : Int) < (s.size : Int) := by omega
  have hmk := make_run s.size w (by omega)
  obtain ⟨w2, hcp, hby, hbel, hsz⟩ := copy_run s b o cap w hb hc
  have HY : Hid (Bytes w2 w.heap.size 0 s) := hideP hby
  have HL : Hid (Below w.heap.size w w2) := hideP hbel
  have HV : Hid (w2.var? Tryz.prog "strconv.ErrRange" = some #[.iface 87 (.pointer (some x))]) := hideP (var_kept (by omega) hv hbel)
  clear hc hby hbel hv
  go_enter Tryz.func4, Tryz.ntmps4
  go_wp2_with (first
    | (go_at_call 9; refine (bound_in _ _ _ _ _ (by omega)).mono ?_; rintro e w1 ⟨rfl, hw⟩; have hw2 := hw.symm; subst hw2)
    | (go_at_call 6; refine (zz_no w.heap.size 0 _ line s x _ hsz HY.out (by omega) (Nat.le_refl _) h1 HV.out hf).mono ?_; rintro e w3 ⟨⟨a, rfl⟩, hw⟩; have HR : Hid (Below w2.heap.size w2 w3) := hideP hw; clear hw; have hz0 : w3.cell? ⟨w.heap.size, 0, none⟩ = some (.int .u8 (s[0].toNat : Int)) := bytes_kept HY.out hsz HR.out 0 h1; have hz1 : w3.cell? ⟨w.heap.size, 1, none⟩ = some (.int .u8 (s[1].toNat : Int)) := bytes_kept HY.out hsz HR.out 1 _l2))
  go_ret
  exact ⟨rfl, HL.out.trans (HR.out.mono HL.out.size)⟩

set_option maxHeartbeats 1000000 in
theorem law_bad (b o cap : Nat) (line : Int) (s : ByteArray) (x : Addr) (w : World) (hb : b < w.heap.size) (hc : Bytes w b o s) (hs : s.size ≤ 65536) (h1 : 0 < s.size) (hv : w.var? Tryz.prog "strconv.ErrRange" = some #[.iface 87 (.pointer (some x))]) (hf : Hid (atomL s.data.toList = none)) (_b : ¬ (s[0].toNat : Int) = 58) (_b2 : ((s[0].toNat : Int) == 58) = false) :
    Calls Tryz.prog 4 #[.slice (some ⟨b, o, none⟩) s.size cap, .int .i64 line] w fun e w' => e = .returned (.bool true) ∧ Below w.heap.size w w' := by
  have l1 : decide ((65536 : Int) < (s.size : Int)) = false := decide_eq_false (by omega)
  have l2 : ((s.size : Int) == 0) = false := beq_no (by omega)
  have l0i : (0 : Int) < (s.size : Int) := by omega
  have hmk := make_run s.size w (by omega)
  obtain ⟨w2, hcp, hby, hbel, hsz⟩ := copy_run s b o cap w hb hc
  have HY : Hid (Bytes w2 w.heap.size 0 s) := hideP hby
  have HL : Hid (Below w.heap.size w w2) := hideP hbel
  have HV : Hid (w2.var? Tryz.prog "strconv.ErrRange" = some #[.iface 87 (.pointer (some x))]) := hideP (var_kept (by omega) hv hbel)
  clear hc hby hbel hv
  go_enter Tryz.func4, Tryz.ntmps4
  go_wp2_with (first
    | (go_at_call 9; refine (bound_in _ _ _ _ _ (by omega)).mono ?_; rintro e w1 ⟨rfl, hw⟩; have hw2 := hw.symm; subst hw2)
    | (go_at_call 6; refine (zz_no w.heap.size 0 _ line s x _ hsz HY.out (by omega) (Nat.le_refl _) h1 HV.out hf).mono ?_; rintro e w3 ⟨⟨a, rfl⟩, hw⟩; have HR : Hid (Below w2.heap.size w2 w3) := hideP hw; clear hw; have hz0 : w3.cell? ⟨w.heap.size, 0, none⟩ = some (.int .u8 (s[0].toNat : Int)) := bytes_kept HY.out hsz HR.out 0 h1))
  go_ret
  exact ⟨rfl, HL.out.trans (HR.out.mono HL.out.size)⟩

set_option maxHeartbeats 1000000 in
theorem law_good (b o cap : Nat) (line : Int) (s : ByteArray) (x : Addr) (w : World) (hb : b < w.heap.size) (hc : Bytes w b o s) (hs : s.size ≤ 65536) (h1 : 0 < s.size) (hv : w.var? Tryz.prog "strconv.ErrRange" = some #[.iface 87 (.pointer (some x))]) (f : Form) (hf : Hid (atomL s.data.toList = some f)) (hg : Hid (Good f)) (t : ByteArray) (ht : Hid (str (writeL f) = t)) (ht0 : 0 < t.size) (hts : t.size ≤ 131072) (hft : Hid (atomL t.data.toList = some f)) (hp2 : 2 < w.heap.size) (htab : Hid (TabIs Tryz.prog w powName .u64 pow10Tab)) (_b : ¬ (s[0].toNat : Int) = 58) (_b2 : ((s[0].toNat : Int) == 58) = false) (_t0 : ((t.size : Int) == 0) = false) :
    Calls Tryz.prog 4 #[.slice (some ⟨b, o, none⟩) s.size cap, .int .i64 line] w fun e w' => e = .returned (.bool true) ∧ Below w.heap.size w w' := by
  have l1 : decide ((65536 : Int) < (s.size : Int)) = false := decide_eq_false (by omega)
  have l2 : ((s.size : Int) == 0) = false := beq_no (by omega)
  have l0i : (0 : Int) < (s.size : Int) := by omega
  have hmk := make_run s.size w (by omega)
  obtain ⟨w2, hcp, hby, hbel, hsz⟩ := copy_run s b o cap w hb hc
  have HY : Hid (Bytes w2 w.heap.size 0 s) := hideP hby
  have HL : Hid (Below w.heap.size w w2) := hideP hbel
  have HV : Hid (w2.var? Tryz.prog "strconv.ErrRange" = some #[.iface 87 (.pointer (some x))]) := hideP (var_kept (by omega) hv hbel)
  clear hc hby hbel hv
  go_enter Tryz.func4, Tryz.ntmps4
  go_wp2_with (first
    | (go_at_call 9; refine (bound_in _ _ _ _ _ (by omega)).mono ?_; rintro e w1 ⟨rfl, hw⟩; have hw2 := hw.symm; subst hw2)
    | (go_at_call 6; have _g := HG1; clear _g; refine (zz_yes w4.heap.size 0 _ line t x _ hsz5 HY5.out hts hcap5 ht0 HV5.out f hft).mono ?_; rintro e w6 ⟨rfl, hw⟩; have HR6 : Hid (Below w5.heap.size w5 w6) := hideP hw; clear hw)
    | (go_at_call 6; refine (zz_yes w.heap.size 0 _ line s x _ hsz HY.out (by omega) (Nat.le_refl _) h1 HV.out f hf).mono ?_; rintro e w3 ⟨rfl, hw⟩; have HR : Hid (Below w2.heap.size w2 w3) := hideP hw; clear hw; have hz0 : w3.cell? ⟨w.heap.size, 0, none⟩ = some (.int .u8 (s[0].toNat : Int)) := bytes_kept HY.out hsz HR.out 0 h1)
    | (go_at_call 10; refine (zzString_form f line _ hg.out (Nat.lt_of_lt_of_le hp2 (step_kept HL.out HR.out).size) (tab_kept hp2 htab.out (step_kept HL.out HR.out))).mono ?_; rintro e w4 ⟨rfl, hw⟩; have HR4 : Hid (Below w3.heap.size w3 w4) := hideP hw; clear hw; rw [ht.out]; obtain ⟨w5, cap5, hcv5, hby5, hbel5, hsz5, hcap5⟩ := bytes_run t w4; have HY5 : Hid (Bytes w5 w4.heap.size 0 t) := hideP hby5; have HL5 : Hid (Below w4.heap.size w4 w5) := hideP hbel5; clear hby5 hbel5; have HG1 : Hid True := hideP trivial; have HV5 : Hid (w5.var? Tryz.prog "strconv.ErrRange" = some #[.iface 87 (.pointer (some x))]) := hideP (var_kept (by omega) HV.out (step_kept HR.out (step_kept HR4.out HL5.out)))))
  go_ret
  exact ⟨rfl, step_kept HL.out (step_kept HR.out (step_kept HR4.out (step_kept HL5.out HR6.out)))⟩

theorem zz_key (b o cap : Nat) (line : Int) (s v : ByteArray) (x : Addr) (w : World) (hb : b < w.heap.size) (hc : Bytes w b o s) (hs : s.size ≤ 131072) (hcap : s.size ≤ cap) (h1 : 0 < s.size) (hv : w.var? Tryz.prog "strconv.ErrRange" = some #[.iface 87 (.pointer (some x))]) (hf : Hid (atomL s.data.toList = some (6, v.data.toList, 0, false))) :
    Calls Tryz.prog 6 #[.int .i64 line, .slice (some ⟨b, o, none⟩) s.size cap] w fun e w' => e = .returned (.tuple #[.int .u8 6, .int .i64 line, .string v, .int .i64 0, .bool false, .nilIface]) ∧ Below w.heap.size w w' :=
  zz_yes b o cap line s x w hb hc hs hcap h1 hv (6, v.data.toList, 0, false) hf
theorem zzString_key (line : Int) (s v : ByteArray) (w : World) (hvs : v.size ≤ 131072) (hsv : s.data.toList = 58 :: v.data.toList) (hp2 : 2 < w.heap.size) (htab : TabIs Tryz.prog w powName .u64 pow10Tab) :
    Calls Tryz.prog 10 #[.int .u8 6, .int .i64 line, .string v, .int .i64 0, .bool false] w fun e w' => e = .returned (.string s) ∧ Below w.heap.size w w' :=
  (zzString_form (6, v.data.toList, 0, false) line w (.inr (.inr ⟨v.data.toList, by rw [data_length]; exact hvs, .inr (.inr (.inr (.inl rfl)))⟩)) hp2 htab).mono fun e w' h => by
    refine ⟨h.1.trans ?_, h.2⟩
    have e1 : str (writeL (6, v.data.toList, 0, false)) = s := bytes_eq (by rw [hsv]; rfl)
    rw [e1]

theorem conv_tail (s v : ByteArray) (b : Nat) (w : World) (hc : Bytes w b 0 s) (hve : s.extract 1 s.size = v) (hvz : v.size = s.size - 1) :
    (convert 22 9 (.slice (some ⟨b, 1, none⟩) (s.size - 1) (s.size - 1))).run Tryz.prog w = .ok (.string v) w := by
  have h := run_convert_whole (P := Tryz.prog) w 22 5 9 Tryz.underlying22 Tryz.underlying5 Tryz.underlying9 b 1 v (by rw [← hve]; exact bytes_tail hc) (s.size - 1)
  rw [hvz] at h
  exact h

set_option maxHeartbeats 1000000 in
theorem law_key (b o cap : Nat) (line : Int) (s : ByteArray) (x : Addr) (w : World) (hb : b < w.heap.size) (hc : Bytes w b o s) (hs : s.size ≤ 65536) (h1 : 0 < s.size) (hv : w.var? Tryz.prog "strconv.ErrRange" = some #[.iface 87 (.pointer (some x))]) (v : ByteArray) (hf : Hid (atomL s.data.toList = some (6, v.data.toList, 0, false))) (hsv : Hid (s.data.toList = 58 :: v.data.toList)) (hvz : v.size = s.size - 1) (hve : Hid (s.extract 1 s.size = v)) (hp2 : 2 < w.heap.size) (htab : Hid (TabIs Tryz.prog w powName .u64 pow10Tab)) (_b : (s[0].toNat : Int) = 58) (_l1 : ((s.size : Int) == 1) = false) (_l3 : (1 : Int) < (s.size : Int)) (_l2 : 1 < s.size) (_c : ¬ (s[1].toNat : Int) = 58) (_c2 : ((s[1].toNat : Int) == 58) = false) :
    Calls Tryz.prog 4 #[.slice (some ⟨b, o, none⟩) s.size cap, .int .i64 line] w fun e w' => e = .returned (.bool true) ∧ Below w.heap.size w w' := by
  have l1 : decide ((65536 : Int) < (s.size : Int)) = false := decide_eq_false (by omega)
  have l2 : ((s.size : Int) == 0) = false := beq_no (by omega)
  have l0i : (0 : Int) < (s.size : Int) := by omega
  have hmk := make_run s.size w (by omega)
  obtain ⟨w2, hcp, hby, hbel, hsz⟩ := copy_run s b o cap w hb hc
  have HY : Hid (Bytes w2 w.heap.size 0 s) := hideP hby
  have HL : Hid (Below w.heap.size w w2) := hideP hbel
  have HV : Hid (w2.var? Tryz.prog "strconv.ErrRange" = some #[.iface 87 (.pointer (some x))]) := hideP (var_kept (by omega) hv hbel)
  clear hc hby hbel hv
  go_enter Tryz.func4, Tryz.ntmps4
  go_wp2_with (first
    | (go_at_call 9; refine (bound_in _ _ _ _ _ (by omega)).mono ?_; rintro e w1 ⟨rfl, hw⟩; have hw2 := hw.symm; subst hw2)
    | (go_at_call 6; have _g := HG1; clear _g; refine (zz_key w4.heap.size 0 _ line s v x _ hsz5 HY5.out (by omega) hcap5 h1 HV5.out hf).mono ?_; rintro e w6 ⟨rfl, hw⟩; have HR6 : Hid (Below w5.heap.size w5 w6) := hideP hw; clear hw)
    | (go_at_call 6; refine (zz_key w.heap.size 0 _ line s v x _ hsz HY.out (by omega) (Nat.le_refl _) h1 HV.out hf).mono ?_; rintro e w3 ⟨rfl, hw⟩; have HR : Hid (Below w2.heap.size w2 w3) := hideP hw; clear hw; have hz0 : w3.cell? ⟨w.heap.size, 0, none⟩ = some (.int .u8 (s[0].toNat : Int)) := bytes_kept HY.out hsz HR.out 0 h1; have hz1 : w3.cell? ⟨w.heap.size, 1, none⟩ = some (.int .u8 (s[1].toNat : Int)) := bytes_kept HY.out hsz HR.out 1 _l2)
    | (go_at_call 10; refine (zzString_key line s v _ (by omega) hsv.out (Nat.lt_of_lt_of_le hp2 (step_kept HL.out HR.out).size) (tab_kept hp2 htab.out (step_kept HL.out HR.out))).mono ?_; rintro e w4 ⟨rfl, hw⟩; have HR4 : Hid (Below w3.heap.size w3 w4) := hideP hw; clear hw; have HB4 : Hid (Bytes w4 w.heap.size 0 s) := hideP (bytes_kept HY.out hsz (step_kept HR.out HR4.out)); have hcA := run_convert_whole (P := Tryz.prog) w4 22 5 9 Tryz.underlying22 Tryz.underlying5 Tryz.underlying9 w.heap.size 0 s HB4.out s.size; have hcB := conv_tail s v w.heap.size w4 HB4.out hve.out hvz; obtain ⟨w5, cap5, hcv5, hby5, hbel5, hsz5, hcap5⟩ := bytes_run s w4; have HY5 : Hid (Bytes w5 w4.heap.size 0 s) := hideP hby5; have HL5 : Hid (Below w4.heap.size w4 w5) := hideP hbel5; clear hby5 hbel5; have HG1 : Hid True := hideP trivial; have HV5 : Hid (w5.var? Tryz.prog "strconv.ErrRange" = some #[.iface 87 (.pointer (some x))]) := hideP (var_kept (by omega) HV.out (step_kept HR.out (step_kept HR4.out HL5.out)))))
  go_ret
  exact ⟨rfl, step_kept HL.out (step_kept HR.out (step_kept HR4.out (step_kept HL5.out HR6.out)))⟩


/-! ### together -/
theorem good_of {l : List UInt8} {f : Form} (hl : l.length ≤ 65536) (h : atomL l = some f) : Good f := by
  unfold atomL at h
  by_cases h1 : l = [110, 105, 108]
  · rw [if_pos h1] at h; exact .inl (Option.some.inj h).symm
  rw [if_neg h1] at h
  by_cases h2 : l = [116, 114, 117, 101] ∨ l = [102, 97, 108, 115, 101]
  · rw [if_pos h2] at h; exact .inr (.inr ⟨l, by omega, .inl (Option.some.inj h).symm⟩)
  rw [if_neg h2] at h
  by_cases h3 : l.head? = some 58
  · rw [if_pos h3] at h
    by_cases h4 : l.length = 1 ∨ l.tail.head? = some 58
    · rw [if_pos h4] at h; cases h
    · rw [if_neg h4] at h; exact .inr (.inr ⟨l.tail, by rw [List.length_tail]; omega, .inr (.inr (.inr (.inl (Option.some.inj h).symm)))⟩)
  rw [if_neg h3] at h
  by_cases h5 : numCond l = true
  · rw [if_pos h5] at h
    rcases num_forms h with ⟨n, rfl, hn⟩ | rfl | rfl
    · exact .inr (.inl ⟨n, rfl, hn⟩)
    · exact .inr (.inr ⟨l, by omega, .inr (.inl rfl)⟩)
    · exact .inr (.inr ⟨l, by omega, .inr (.inr (.inl rfl))⟩)
  · rw [if_neg h5] at h; exact .inr (.inr ⟨l, by omega, .inr (.inr (.inr (.inr (Option.some.inj h).symm)))⟩)
theorem good_size {f : Form} (h : Good f) : (writeL f).length ≤ 131073 := by
  rcases h with rfl | ⟨n, rfl, h0, h1⟩ | ⟨l, hl, rfl | rfl | rfl | rfl | rfl⟩
  · decide
  · have := itoa_length_le n h0 h1
    show (itoa n).length ≤ _
    omega
  · show l.length ≤ _; omega
  · show l.length ≤ _; omega
  · show l.length ≤ _; omega
  · show (58 :: l).length ≤ _; rw [List.length_cons]; omega
  · show l.length ≤ _; omega
theorem write_size {l : List UInt8} {f : Form} (hl : l.length ≤ 65536) (h : atomL l = some f) : (writeL f).length ≤ 131072 := by
  unfold atomL at h
  by_cases h1 : l = [110, 105, 108]
  · rw [if_pos h1] at h; rw [← Option.some.inj h]; decide
  rw [if_neg h1] at h
  by_cases h2 : l = [116, 114, 117, 101] ∨ l = [102, 97, 108, 115, 101]
  · rw [if_pos h2] at h; rw [← Option.some.inj h]; show l.length ≤ _; omega
  rw [if_neg h2] at h
  by_cases h3 : l.head? = some 58
  · rw [if_pos h3] at h
    by_cases h4 : l.length = 1 ∨ l.tail.head? = some 58
    · rw [if_pos h4] at h; cases h
    · rw [if_neg h4] at h; rw [← Option.some.inj h]; show (58 :: l.tail).length ≤ _; rw [List.length_cons, List.length_tail]; omega
  rw [if_neg h3] at h
  by_cases h5 : numCond l = true
  · rw [if_pos h5] at h
    rcases num_forms h with ⟨n, rfl, h0, h1⟩ | rfl | rfl
    · have := itoa_length_le n h0 h1
      show (itoa n).length ≤ _
      omega
    · show l.length ≤ _; omega
    · show l.length ≤ _; omega
  · rw [if_neg h5] at h; rw [← Option.some.inj h]; show l.length ≤ _; omega
theorem key_form {l : List UInt8} (h : l.head? = some 58) : atomL l = if l.length = 1 ∨ l.tail.head? = some 58 then none else some (6, l.tail, 0, false) := by
  unfold atomL
  rw [if_neg (fun e => by rw [e] at h; revert h; decide), if_neg (fun e => by rcases e with e | e <;> rw [e] at h <;> revert h <;> decide), if_pos h]
/-- The law, at bytes that came in. -/
theorem law_any (b o cap : Nat) (line : Int) (s : ByteArray) (x : Addr) (w : World) (hb : b < w.heap.size) (hc : Bytes w b o s) (hs : s.size ≤ 65536) (h1 : 0 < s.size) (hv : w.var? Tryz.prog "strconv.ErrRange" = some #[.iface 87 (.pointer (some x))]) (hp2 : 2 < w.heap.size) (htab : TabIs Tryz.prog w powName .u64 pow10Tab) :
    Calls Tryz.prog 4 #[.slice (some ⟨b, o, none⟩) s.size cap, .int .i64 line] w fun e w' => e = .returned (.bool true) ∧ Below w.heap.size w w' := by
  have hl : s.data.toList.length ≤ 65536 := by rw [data_length]; exact hs
  by_cases h58 : (s[0].toNat : Int) = 58
  · have hh : s.data.toList.head? = some 58 := by rw [head_zero s h1]; exact congrArg some (byte_eq h58)
    have hk := key_form hh
    by_cases hs1 : s.size = 1
    · rw [if_pos (.inl (by rw [data_length]; exact hs1))] at hk
      exact law_bad_one b o cap line s x w hb hc hs h1 hv hk h58 (by rw [beq_iff_eq]; omega)
    · have h2 : 1 < s.size := by omega
      have htl : s.data.toList.tail.head? = some s[1] := by rw [two_some s h2]; rfl
      by_cases hc1 : (s[1].toNat : Int) = 58
      · rw [if_pos (.inr (by rw [htl]; exact congrArg some (byte_eq hc1)))] at hk
        exact law_bad_two b o cap line s x w hb hc hs h1 hv hk h58 (beq_no (by omega)) (by omega) h2 hc1
      · rw [if_neg (by
          rw [not_or]
          exact ⟨by rw [data_length]; exact hs1, by rw [htl]; exact byte_ne (b := 58) hc1⟩)] at hk
        have htt : s.extract 1 s.size = str s.data.toList.tail := bytes_eq (by rw [tail_data]; rfl)
        exact law_key b o cap line s x w hb hc hs h1 hv (str s.data.toList.tail) hk (hideP (by
          rw [head_some s h1, byte_eq (b := 58) h58]; rfl)) (by rw [str_size, List.length_tail, data_length]) htt hp2 htab h58 (beq_no (by omega)) (by omega) h2 hc1 (beq_no hc1)
  · cases ha : atomL s.data.toList with
    | none => exact law_bad b o cap line s x w hb hc hs h1 hv ha h58 (beq_no h58)
    | some f =>
      have ht := trip (data_ne s h1) ha
      have hlen : 0 < (writeL f).length := List.length_pos_iff.mpr ht.1
      exact law_good b o cap line s x w hb hc hs h1 hv f ha (good_of hl ha) (str (writeL f)) rfl (by rw [str_size]; exact hlen) (by rw [str_size]; exact write_size hl ha) ht.2 hp2 htab h58 (beq_no h58) (beq_no (by rw [str_size]; omega))

end Go.Proofs.Qxb6613685aGreatFmt
