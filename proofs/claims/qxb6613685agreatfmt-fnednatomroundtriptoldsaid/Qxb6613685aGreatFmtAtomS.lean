/-
  atom, by one contract; ZZednAtom.
-/
import Derived.Test.Qxb6613685aGreatFmtAtom
namespace Go.Proofs.Qxb6613685aGreatFmt
open Go.RowKit
open Go.Lib hiding intOf

theorem ret_ok {line : Int} {f : Form} {o : Option Form} {B : Nat} {w w' : World} {e : Ending} (ho : o = some f) (h : e = .returned (.tuple #[formV line f, .nilIface]) ∧ Below B w w') : retV line o e ∧ Below B w w' := by
  rw [ho]; exact h
theorem ret_bad {line : Int} {o : Option Form} {B : Nat} {w w' : World} {e : Ending} (ho : o = none) (h : (∃ a, e = .returned (.tuple #[zeroV, .iface 47 (.pointer (some a))])) ∧ Below B w w') : retV line o e ∧ Below B w w' := by
  rw [ho]; exact h
theorem list_not {s : ByteArray} {l : List UInt8} (h : ¬ s.data.toList = l) : ¬ s.toList = l := by rw [list_data]; exact h
theorem list_beq {s : ByteArray} {l : List UInt8} (h : ¬ s.data.toList = l) : (s.toList == l) = false := by rw [beq_eq_false_iff_ne]; exact list_not h
theorem dig_test (c : UInt8) : (decide ((48 : Int) ≤ (c.toNat : Int)) && decide ((c.toNat : Int) ≤ 57)) = dig c := rfl
theorem two_some (s : ByteArray) (h : 1 < s.size) : s.data.toList = s[0] :: s[1] :: s.data.toList.tail.tail := by
  have h0 := head_some s (by omega)
  have h1 := get_data s 1 h
  rw [h0] at h1 ⊢
  cases ht : s.data.toList.tail with
  | nil => rw [ht] at h1; simp at h1
  | cons d r =>
    rw [ht] at h1
    simp at h1
    rw [h1]
    rfl
theorem one_some (s : ByteArray) (h : s.size = 1) : s.data.toList = [s[0]] := by
  have h0 := head_some s (by omega)
  have hl := data_length s
  rw [h0, List.length_cons] at hl
  have : s.data.toList.tail = [] := List.length_eq_zero_iff.mp (by omega)
  rw [this] at h0
  exact h0

/-- atom. -/
theorem atom_any (B b o cap M : Nat) (line : Int) (s : ByteArray) (x : Addr) (w : World) (hc0 : Came w B b o cap line s) (hv : w.var? Tryz.prog "strconv.ErrRange" = some #[.iface 87 (.pointer (some x))])
    (hM : w.heap[M]? = some (.map #[] 0)) (hMw : M < w.heap.size) (hkw : w.cell? ⟨B, 11, none⟩ = some (.map (some M))) :
    Calls Tryz.prog 11 #[.pointer (some ⟨B, 0, none⟩)] w fun e w' => retV line (atomL s.data.toList) e ∧ Below M w w' := by
  have h1 := hc0.pos
  have hMl : M ≤ w.heap.size := Nat.le_of_lt hMw
  by_cases hn : s.data.toList = [110, 105, 108]
  · have hL : atomL s.data.toList = some (0, [], 0, false) := by unfold atomL; rw [if_pos hn]
    exact (atom_nil B b o cap line s w hc0 h1 ((list_data s).trans hn)).mono fun e w' h => ret_ok hL ⟨h.1, h.2.mono hMl⟩
  by_cases ht : s.data.toList = [116, 114, 117, 101]
  · have hL : atomL s.data.toList = some (1, s.data.toList, 0, false) := by unfold atomL; rw [if_neg hn, if_pos (.inl ht)]
    exact (atom_true B b o cap line s w hc0 h1 (list_not hn) (list_beq hn) ((list_data s).trans ht)).mono fun e w' h => ret_ok hL ⟨h.1, h.2.mono hMl⟩
  by_cases hf : s.data.toList = [102, 97, 108, 115, 101]
  · have hL : atomL s.data.toList = some (1, s.data.toList, 0, false) := by unfold atomL; rw [if_neg hn, if_pos (.inr hf)]
    exact (atom_false B b o cap line s w hc0 h1 (list_not hn) (list_beq hn) (list_not ht) (list_beq ht) ((list_data s).trans hf)).mono fun e w' h => ret_ok hL ⟨h.1, h.2.mono hMl⟩
  have hA : atomL s.data.toList = if s.data.toList.head? = some 58 then (if s.data.toList.length = 1 ∨ s.data.toList.tail.head? = some 58 then none else some (6, s.data.toList.tail, 0, false))
      else if numCond s.data.toList = true then numL s.data.toList else some (7, s.data.toList, 0, false) := by
    unfold atomL; rw [if_neg hn, if_neg (by rw [not_or]; exact ⟨ht, hf⟩)]
  by_cases h58 : (s[0].toNat : Int) = 58
  · rw [if_pos (by rw [head_zero s h1]; exact congrArg some (byte_eq h58))] at hA
    by_cases hs1 : s.size = 1
    · rw [if_pos (.inl (by rw [data_length]; exact hs1))] at hA
      exact (atom_key_one B b o cap line s w hc0 h1 (list_not hn) (list_beq hn) (list_not ht) (list_beq ht) (list_not hf) (list_beq hf) h58 (by rw [beq_iff_eq]; omega)).mono fun e w' h => ret_bad hA ⟨h.1, h.2.mono hMl⟩
    · have h2 : 1 < s.size := by omega
      have htl : s.data.toList.tail.head? = some s[1] := by rw [two_some s h2]; rfl
      by_cases hc1 : (s[1].toNat : Int) = 58
      · rw [if_pos (.inr (by rw [htl]; exact congrArg some (byte_eq hc1)))] at hA
        exact (atom_key_two B b o cap line s w hc0 h1 (list_not hn) (list_beq hn) (list_not ht) (list_beq ht) (list_not hf) (list_beq hf) h58 (beq_no (by omega)) (by omega) h2 hc1).mono fun e w' h => ret_bad hA ⟨h.1, h.2.mono hMl⟩
      · rw [if_neg (by
          rw [not_or]
          exact ⟨by rw [data_length]; exact hs1, by rw [htl]; exact byte_ne (b := 58) hc1⟩)] at hA
        have htt : s.extract 1 s.size = str s.data.toList.tail := bytes_eq (by rw [tail_data]; rfl)
        exact (atom_key_ok B b o cap line s w hc0 M hM hMw hkw (str s.data.toList.tail) htt (by rw [str_size, List.length_tail, data_length]) h1 (list_not hn) (list_beq hn) (list_not ht) (list_beq ht) (list_not hf) (list_beq hf) h58 (beq_no (by omega)) (by omega) h2 hc1 (beq_no hc1)).mono fun e w' h => ret_ok hA h
  · rw [if_neg (by rw [head_zero s h1]; exact byte_ne (b := 58) h58)] at hA
    by_cases hd0 : dig s[0] = true
    · have hcond : numCond s.data.toList = true := by rw [head_some s h1]; unfold numCond; simp only; rw [hd0]; rfl
      rw [if_pos hcond] at hA
      cases hN : numL s.data.toList with
      | some f =>
        rw [hN] at hA
        exact (atom_num_dig_y B b o cap line s w hc0 x hv hcond h1 (list_not hn) (list_beq hn) (list_not ht) (list_beq ht) (list_not hf) (list_beq hf) (beq_no h58) h58 hd0 f hN).mono fun e w' h => ret_ok hA ⟨h.1, h.2.mono hMl⟩
      | none =>
        rw [hN] at hA
        exact (atom_num_dig_n B b o cap line s w hc0 x hv hcond h1 (list_not hn) (list_beq hn) (list_not ht) (list_beq ht) (list_not hf) (list_beq hf) (beq_no h58) h58 hd0 hN).mono fun e w' h => ret_bad hA ⟨h.1, h.2.mono hMl⟩
    · have hd0f : dig s[0] = false := Bool.eq_false_iff.mpr hd0
      by_cases hs1 : s.size = 1
      · have hcond : ¬ numCond s.data.toList = true := by rw [one_some s hs1]; simp [numCond, hd0f]
        rw [if_neg hcond] at hA
        exact (atom_sym_one B b o cap line s w hc0 h1 (list_not hn) (list_beq hn) (list_not ht) (list_beq ht) (list_not hf) (list_beq hf) (beq_no h58) h58 hd0f (decide_eq_false (by omega))).mono fun e w' h => ret_ok hA ⟨h.1, h.2.mono hMl⟩
      · have h2 : 1 < s.size := by omega
        by_cases h43 : (s[0].toNat : Int) = 43
        · by_cases hd1 : dig s[1] = true
          · have hcond : numCond s.data.toList = true := by
              rw [two_some s h2]; unfold numCond; simp only; rw [hd1, decide_eq_true (show s[0].toNat = 43 ∨ s[0].toNat = 45 by omega), hd0f]; rfl
            rw [if_pos hcond] at hA
            cases hN : numL s.data.toList with
            | some f =>
              rw [hN] at hA
              exact (atom_num_pos_y B b o cap line s w hc0 x hv hcond h1 (list_not hn) (list_beq hn) (list_not ht) (list_beq ht) (list_not hf) (list_beq hf) (beq_no h58) h58 hd0f (by omega) h2 h43 hd1 f hN).mono fun e w' h => ret_ok hA ⟨h.1, h.2.mono hMl⟩
            | none =>
              rw [hN] at hA
              exact (atom_num_pos_n B b o cap line s w hc0 x hv hcond h1 (list_not hn) (list_beq hn) (list_not ht) (list_beq ht) (list_not hf) (list_beq hf) (beq_no h58) h58 hd0f (by omega) h2 h43 hd1 hN).mono fun e w' h => ret_bad hA ⟨h.1, h.2.mono hMl⟩
          · have hd1f : dig s[1] = false := Bool.eq_false_iff.mpr hd1
            have hcond : ¬ numCond s.data.toList = true := by
              rw [two_some s h2]; unfold numCond; simp only; rw [hd1f, hd0f]; simp
            rw [if_neg hcond] at hA
            exact (atom_sym_pos B b o cap line s w hc0 h1 (list_not hn) (list_beq hn) (list_not ht) (list_beq ht) (list_not hf) (list_beq hf) (beq_no h58) h58 hd0f (by omega) h2 h43 hd1f).mono fun e w' h => ret_ok hA ⟨h.1, h.2.mono hMl⟩
        · by_cases h45 : (s[0].toNat : Int) = 45
          · by_cases hd1 : dig s[1] = true
            · have hcond : numCond s.data.toList = true := by
                rw [two_some s h2]; unfold numCond; simp only; rw [hd1, decide_eq_true (show s[0].toNat = 43 ∨ s[0].toNat = 45 by omega), hd0f]; rfl
              rw [if_pos hcond] at hA
              cases hN : numL s.data.toList with
              | some f =>
                rw [hN] at hA
                exact (atom_num_neg_y B b o cap line s w hc0 x hv hcond h1 (list_not hn) (list_beq hn) (list_not ht) (list_beq ht) (list_not hf) (list_beq hf) (beq_no h58) h58 hd0f (by omega) h2 h43 (beq_no h43) h45 hd1 f hN).mono fun e w' h => ret_ok hA ⟨h.1, h.2.mono hMl⟩
              | none =>
                rw [hN] at hA
                exact (atom_num_neg_n B b o cap line s w hc0 x hv hcond h1 (list_not hn) (list_beq hn) (list_not ht) (list_beq ht) (list_not hf) (list_beq hf) (beq_no h58) h58 hd0f (by omega) h2 h43 (beq_no h43) h45 hd1 hN).mono fun e w' h => ret_bad hA ⟨h.1, h.2.mono hMl⟩
            · have hd1f : dig s[1] = false := Bool.eq_false_iff.mpr hd1
              have hcond : ¬ numCond s.data.toList = true := by
                rw [two_some s h2]; unfold numCond; simp only; rw [hd1f, hd0f]; simp
              rw [if_neg hcond] at hA
              exact (atom_sym_neg B b o cap line s w hc0 h1 (list_not hn) (list_beq hn) (list_not ht) (list_beq ht) (list_not hf) (list_beq hf) (beq_no h58) h58 hd0f (by omega) h2 h43 (beq_no h43) h45 hd1f).mono fun e w' h => ret_ok hA ⟨h.1, h.2.mono hMl⟩
          · have hcond : ¬ numCond s.data.toList = true := by
              rw [two_some s h2]; unfold numCond; simp only; rw [hd0f, decide_eq_false (show ¬ (s[0].toNat = 43 ∨ s[0].toNat = 45) by omega)]; simp
            rw [if_neg hcond] at hA
            exact (atom_sym_no B b o cap line s w hc0 h1 (list_not hn) (list_beq hn) (list_not ht) (list_beq ht) (list_not hf) (list_beq hf) (beq_no h58) h58 hd0f (by omega) h2 h43 (beq_no h43) h45 (beq_no h45)).mono fun e w' h => ret_ok hA ⟨h.1, h.2.mono hMl⟩

/-! ### ZZednAtom -/
theorem atom_yes (B b o cap M : Nat) (line : Int) (s : ByteArray) (x : Addr) (w : World) (f : Form) (hf : atomL s.data.toList = some f) (hc0 : Came w B b o cap line s) (hv : w.var? Tryz.prog "strconv.ErrRange" = some #[.iface 87 (.pointer (some x))])
    (hM : w.heap[M]? = some (.map #[] 0)) (hMw : M < w.heap.size) (hkw : w.cell? ⟨B, 11, none⟩ = some (.map (some M))) :
    Calls Tryz.prog 11 #[.pointer (some ⟨B, 0, none⟩)] w fun e w' => e = .returned (.tuple #[.agg #[.int .u8 (f.1 : Int), .int .i64 line, .string (str f.2.1), .int .i64 f.2.2.1, .bool f.2.2.2, .slice none 0 0], .nilIface]) ∧ Below M w w' :=
  (atom_any B b o cap M line s x w hc0 hv hM hMw hkw).mono fun e w' h => by
    unfold retV at h
    rw [hf] at h
    exact h
theorem atom_no (B b o cap M : Nat) (line : Int) (s : ByteArray) (x : Addr) (w : World) (hf : atomL s.data.toList = none) (hc0 : Came w B b o cap line s) (hv : w.var? Tryz.prog "strconv.ErrRange" = some #[.iface 87 (.pointer (some x))])
    (hM : w.heap[M]? = some (.map #[] 0)) (hMw : M < w.heap.size) (hkw : w.cell? ⟨B, 11, none⟩ = some (.map (some M))) :
    Calls Tryz.prog 11 #[.pointer (some ⟨B, 0, none⟩)] w fun e w' => (∃ a, e = .returned (.tuple #[.agg #[.int .u8 0, .int .i64 0, .string ⟨#[]⟩, .int .i64 0, .bool false, .slice none 0 0], .iface 47 (.pointer (some a))])) ∧ Below M w w' :=
  (atom_any B b o cap M line s x w hc0 hv hM hMw hkw).mono fun e w' h => by
    unfold retV at h
    rw [hf] at h
    exact h
/-- The reader that ZZednAtom lays. -/
def readerObj (M : Nat) (line : Int) (tok : Value) : Obj := .cells #[.nilIface, .slice none 0 0, .int .i64 0, .int .i64 0, .nilIface, .int .i64 line, tok, .slice none 0 0, .slice none 0 0, .slice none 0 0, .int .i64 0, .map (some M)] 40
def laid (w : World) (line : Int) (tok : Value) : World := (w.alloc (.map #[] 0)).alloc (readerObj w.heap.size line tok)
theorem laid_below (w : World) (line : Int) (tok : Value) : Below w.heap.size w (laid w line tok) := ((Below.refl _ _).alloc (Nat.le_refl _) _).alloc (by rw [World.size_alloc]; omega) _
theorem laid_size (w : World) (line : Int) (tok : Value) : (laid w line tok).heap.size = w.heap.size + 2 := by unfold laid; rw [World.size_alloc, World.size_alloc]
theorem laid_map (w : World) (line : Int) (tok : Value) : (laid w line tok).heap[w.heap.size]? = some (.map #[] 0) := by
  unfold laid
  rw [Below.heap_alloc _ _ _ (by rw [World.size_alloc]; omega)]
  show (w.heap.push _)[w.heap.size]? = _
  rw [Array.getElem?_push_size]
theorem laid_reader (w : World) (line : Int) (tok : Value) : (laid w line tok).heap[w.heap.size + 1]? = some (readerObj w.heap.size line tok) := by
  unfold laid
  rw [← World.size_alloc w (.map #[] 0)]
  show ((w.alloc _).heap.push _)[(w.alloc _).heap.size]? = _
  rw [Array.getElem?_push_size]
theorem laid_came {b o cap : Nat} (w : World) (line : Int) {s : ByteArray} (hb : b < w.heap.size) (hc : Bytes w b o s) (hs : s.size ≤ 131072) (hcap : s.size ≤ cap) (h1 : 0 < s.size) : Came (laid w line (.slice (some ⟨b, o, none⟩) s.size cap)) (w.heap.size + 1) b o cap line s := by
  have hl := laid_reader w line (.slice (some ⟨b, o, none⟩) s.size cap)
  refine ⟨by rw [laid_size]; omega, by rw [laid_size]; omega, ?_, ?_, bytes_kept hc hb (laid_below w line _), hs, hcap, h1⟩
  · simp [World.cell?, hl, readerObj]
  · simp [World.cell?, hl, readerObj]
set_option maxHeartbeats 1000000 in
theorem zz_yes (b o cap : Nat) (line : Int) (s : ByteArray) (x : Addr) (w : World) (hb : b < w.heap.size) (hc : Bytes w b o s) (hs : s.size ≤ 131072) (hcap : s.size ≤ cap) (h1 : 0 < s.size) (hv : w.var? Tryz.prog "strconv.ErrRange" = some #[.iface 87 (.pointer (some x))]) (f : Form) (hf : Hid (atomL s.data.toList = some f)) :
    Calls Tryz.prog 6 #[.int .i64 line, .slice (some ⟨b, o, none⟩) s.size cap] w fun e w' => e = .returned (.tuple #[.int .u8 (f.1 : Int), .int .i64 line, .string (str f.2.1), .int .i64 f.2.2.1, .bool f.2.2.2, .nilIface]) ∧ Below w.heap.size w w' := by
  have HB : Hid (Below w.heap.size w ((w.alloc (.map #[] 0)).alloc (.cells #[.nilIface, .slice none 0 0, .int .i64 0, .int .i64 0, .nilIface, .int .i64 line, .slice (some ⟨b, o, none⟩) s.size cap, .slice none 0 0, .slice none 0 0, .slice none 0 0, .int .i64 0, .map (some w.heap.size)] 40))) := hideP (laid_below w line _)
  have HC : Hid (Came ((w.alloc (.map #[] 0)).alloc (.cells #[.nilIface, .slice none 0 0, .int .i64 0, .int .i64 0, .nilIface, .int .i64 line, .slice (some ⟨b, o, none⟩) s.size cap, .slice none 0 0, .slice none 0 0, .slice none 0 0, .int .i64 0, .map (some w.heap.size)] 40)) (w.heap.size + 1) b o cap line s) := hideP (laid_came w line hb hc hs hcap h1)
  have HV : Hid (((w.alloc (.map #[] 0)).alloc (.cells #[.nilIface, .slice none 0 0, .int .i64 0, .int .i64 0, .nilIface, .int .i64 line, .slice (some ⟨b, o, none⟩) s.size cap, .slice none 0 0, .slice none 0 0, .slice none 0 0, .int .i64 0, .map (some w.heap.size)] 40)).var? Tryz.prog "strconv.ErrRange" = some #[.iface 87 (.pointer (some x))]) := hideP (var_kept (by omega) hv (laid_below w line _))
  have HM : Hid (((w.alloc (.map #[] 0)).alloc (.cells #[.nilIface, .slice none 0 0, .int .i64 0, .int .i64 0, .nilIface, .int .i64 line, .slice (some ⟨b, o, none⟩) s.size cap, .slice none 0 0, .slice none 0 0, .slice none 0 0, .int .i64 0, .map (some w.heap.size)] 40)).heap[w.heap.size]? = some (.map #[] 0)) := hideP (laid_map w line _)
  have HS : Hid (w.heap.size < ((w.alloc (.map #[] 0)).alloc (.cells #[.nilIface, .slice none 0 0, .int .i64 0, .int .i64 0, .nilIface, .int .i64 line, .slice (some ⟨b, o, none⟩) s.size cap, .slice none 0 0, .slice none 0 0, .slice none 0 0, .int .i64 0, .map (some w.heap.size)] 40)).heap.size) := hideP (by rw [World.size_alloc, World.size_alloc]; omega)
  have HK : Hid (((w.alloc (.map #[] 0)).alloc (.cells #[.nilIface, .slice none 0 0, .int .i64 0, .int .i64 0, .nilIface, .int .i64 line, .slice (some ⟨b, o, none⟩) s.size cap, .slice none 0 0, .slice none 0 0, .slice none 0 0, .int .i64 0, .map (some w.heap.size)] 40)).cell? ⟨w.heap.size + 1, 11, none⟩ = some (.map (some w.heap.size))) := hideP (by
    have := laid_reader w line (.slice (some ⟨b, o, none⟩) s.size cap)
    show World.cell? (laid w line (.slice (some ⟨b, o, none⟩) s.size cap)) _ = _
    simp [World.cell?, this, readerObj])
  have hmm := @run_makeMap Tryz.prog
  clear hc hv
  go_enter Tryz.func6, Tryz.ntmps6
  go_wp2_with (go_at_call 11; refine (atom_yes _ b o cap w.heap.size line s x _ f hf.out HC.out HV.out HM.out HS.out HK.out).mono ?_; rintro e w1 ⟨rfl, hw⟩; have HR : Hid _ := hideP hw; clear hw)
  go_quiet (fail)
  go_wp2
  go_returns
  refine ⟨rfl, ?_⟩
  have hk : Below w.heap.size w w1 := HB.out.trans HR.out
  have h2 := hk.alloc hk.size (.cells #[.int .u8 (f.1 : Int), .int .i64 line, .string (str f.2.1), .int .i64 f.2.2.1, .bool f.2.2.2, .slice none 0 0] 43)
  exact ⟨h2.os, h2.tape, h2.output, h2.size, h2.block⟩
set_option maxHeartbeats 1000000 in
theorem zz_no (b o cap : Nat) (line : Int) (s : ByteArray) (x : Addr) (w : World) (hb : b < w.heap.size) (hc : Bytes w b o s) (hs : s.size ≤ 131072) (hcap : s.size ≤ cap) (h1 : 0 < s.size) (hv : w.var? Tryz.prog "strconv.ErrRange" = some #[.iface 87 (.pointer (some x))]) (hf : Hid (atomL s.data.toList = none)) :
    Calls Tryz.prog 6 #[.int .i64 line, .slice (some ⟨b, o, none⟩) s.size cap] w fun e w' => (∃ a, e = .returned (.tuple #[.int .u8 0, .int .i64 0, .string ⟨#[]⟩, .int .i64 0, .bool false, .iface 47 (.pointer (some a))])) ∧ Below w.heap.size w w' := by
  have HB : Hid (Below w.heap.size w ((w.alloc (.map #[] 0)).alloc (.cells #[.nilIface, .slice none 0 0, .int .i64 0, .int .i64 0, .nilIface, .int .i64 line, .slice (some ⟨b, o, none⟩) s.size cap, .slice none 0 0, .slice none 0 0, .slice none 0 0, .int .i64 0, .map (some w.heap.size)] 40))) := hideP (laid_below w line _)
  have HC : Hid (Came ((w.alloc (.map #[] 0)).alloc (.cells #[.nilIface, .slice none 0 0, .int .i64 0, .int .i64 0, .nilIface, .int .i64 line, .slice (some ⟨b, o, none⟩) s.size cap, .slice none 0 0, .slice none 0 0, .slice none 0 0, .int .i64 0, .map (some w.heap.size)] 40)) (w.heap.size + 1) b o cap line s) := hideP (laid_came w line hb hc hs hcap h1)
  have HV : Hid (((w.alloc (.map #[] 0)).alloc (.cells #[.nilIface, .slice none 0 0, .int .i64 0, .int .i64 0, .nilIface, .int .i64 line, .slice (some ⟨b, o, none⟩) s.size cap, .slice none 0 0, .slice none 0 0, .slice none 0 0, .int .i64 0, .map (some w.heap.size)] 40)).var? Tryz.prog "strconv.ErrRange" = some #[.iface 87 (.pointer (some x))]) := hideP (var_kept (by omega) hv (laid_below w line _))
  have HM : Hid (((w.alloc (.map #[] 0)).alloc (.cells #[.nilIface, .slice none 0 0, .int .i64 0, .int .i64 0, .nilIface, .int .i64 line, .slice (some ⟨b, o, none⟩) s.size cap, .slice none 0 0, .slice none 0 0, .slice none 0 0, .int .i64 0, .map (some w.heap.size)] 40)).heap[w.heap.size]? = some (.map #[] 0)) := hideP (laid_map w line _)
  have HS : Hid (w.heap.size < ((w.alloc (.map #[] 0)).alloc (.cells #[.nilIface, .slice none 0 0, .int .i64 0, .int .i64 0, .nilIface, .int .i64 line, .slice (some ⟨b, o, none⟩) s.size cap, .slice none 0 0, .slice none 0 0, .slice none 0 0, .int .i64 0, .map (some w.heap.size)] 40)).heap.size) := hideP (by rw [World.size_alloc, World.size_alloc]; omega)
  have HK : Hid (((w.alloc (.map #[] 0)).alloc (.cells #[.nilIface, .slice none 0 0, .int .i64 0, .int .i64 0, .nilIface, .int .i64 line, .slice (some ⟨b, o, none⟩) s.size cap, .slice none 0 0, .slice none 0 0, .slice none 0 0, .int .i64 0, .map (some w.heap.size)] 40)).cell? ⟨w.heap.size + 1, 11, none⟩ = some (.map (some w.heap.size))) := hideP (by
    have := laid_reader w line (.slice (some ⟨b, o, none⟩) s.size cap)
    show World.cell? (laid w line (.slice (some ⟨b, o, none⟩) s.size cap)) _ = _
    simp [World.cell?, this, readerObj])
  have hmm := @run_makeMap Tryz.prog
  clear hc hv
  go_enter Tryz.func6, Tryz.ntmps6
  go_wp2_with (go_at_call 11; refine (atom_no _ b o cap w.heap.size line s x _ hf.out HC.out HV.out HM.out HS.out HK.out).mono ?_; rintro e w1 ⟨⟨a, rfl⟩, hw⟩; have HR : Hid _ := hideP hw; clear hw)
  go_quiet (fail)
  go_wp2
  go_returns
  refine ⟨⟨a, rfl⟩, ?_⟩
  have hk : Below w.heap.size w w1 := HB.out.trans HR.out
  have h2 := hk.alloc hk.size (.cells #[.int .u8 0, .int .i64 0, .string ⟨#[]⟩, .int .i64 0, .bool false, .slice none 0 0] 43)
  exact ⟨h2.os, h2.tape, h2.output, h2.size, h2.block⟩
end Go.Proofs.Qxb6613685aGreatFmt
