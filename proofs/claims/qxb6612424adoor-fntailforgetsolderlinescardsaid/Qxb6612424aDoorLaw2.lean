/-
  The walk of FnTailForgetsOlderLines.
-/
import Derived.Test.Qxb6612424aDoorWalk3
import Derived.Test.Qxb6612424aDoorLaw1
import Derived.Deep.QuietTactic
import Derived.BigQuiet
namespace Go.Proofs.Qxb6612424aDoor
open Go.RowKit
open Go.Lib hiding intOf

/-! ### the plain facts -/
theorem append_data (a b : ByteArray) : (a ++ b).data.toList = a.data.toList ++ b.data.toList := by
  rw [ByteArray.data_append, Array.toList_append]
theorem append_size (a b : ByteArray) : (a ++ b).size = a.size + b.size := ByteArray.size_append
theorem get_data (s : ByteArray) (i : Nat) (h : i < s.size) : some s[i] = s.data.toList[i]? := by
  rw [List.getElem?_eq_getElem (by simpa using h)]
  rfl
theorem get_is (s : ByteArray) (i : Nat) (h : i < s.size) (x : UInt8) (hx : s.data.toList[i]? = some x) : s[i] = x := by
  rw [← get_data s i h] at hx
  exact Option.some.inj hx
theorem append_left (a b : ByteArray) (j : Nat) (h : j < a.size) (h2 : 0 + j < (a ++ b).size) : (a ++ b)[0 + j] = a[j] := by
  apply get_is
  rw [append_data, Nat.zero_add, List.getElem?_append_left (by simpa using h), ← get_data a j h]
theorem append_right (a b : ByteArray) (j : Nat) (h : j < b.size) (h2 : a.size + j < (a ++ b).size) : (a ++ b)[a.size + j] = b[j] := by
  have ha : a.data.toList.length = a.size := by simp
  apply get_is
  rw [append_data, List.getElem?_append_right (by omega), ha, show a.size + j - a.size = j by omega, ← get_data b j h]

/-- What is known of the tail of a text with five newlines or more. -/
structure TailOf (s T : ByteArray) : Prop where
  is : tailB s = T
  any : ∀ s1, tailB (s1 ++ s) = T
  less : T.size < s.size
  ahead : ∀ h, (s[s.size - T.size - 1]'h).toNat = 10
  same : ∀ i (h : i < T.size) h2, s[s.size - T.size + i]'h2 = T[i]
  four : nls T = 4
theorem tail_facts (s : ByteArray) (h : 5 ≤ nls s) : ∃ T, TailOf s T := by
  obtain ⟨a, b, e, hb⟩ := fifth s.data.toList h
  have hs : s.size = a.length + (b.length + 1) := by
    have := congrArg List.length e
    simpa using this
  have hT : tailB s = ⟨b.toArray⟩ := by unfold tailB; rw [e, tail_many a b hb]
  have hTz : (⟨b.toArray⟩ : ByteArray).size = b.length := rfl
  refine ⟨⟨b.toArray⟩, hT, fun s1 => ?_, by rw [hTz]; omega, fun h => ?_, fun i h h2 => ?_, by unfold nls; exact hb⟩
  · unfold tailB
    rw [append_data, e, ← List.append_assoc, tail_many _ b hb]
  · have : s[s.size - (⟨b.toArray⟩ : ByteArray).size - 1] = 10 := by
      apply get_is
      rw [hTz, e, show s.size - b.length - 1 = a.length by omega, List.getElem?_append_right (Nat.le_refl _), Nat.sub_self, List.getElem?_cons_zero]
    rw [this]
    rfl
  · apply get_is
    rw [hTz, e, show s.size - b.length + i = a.length + 1 + i by omega, List.getElem?_append_right (by omega), show a.length + 1 + i - a.length = i + 1 by omega, List.getElem?_cons_succ]
    exact (get_data ⟨b.toArray⟩ i h).symm

theorem below_one (w : World) (o : Obj) : Below w.heap.size w (w.alloc o) := (Below.refl _ _).alloc (Nat.le_refl _) _
theorem src_of (s : ByteArray) (R c : Nat) (W : World) (h : Bytes W R 0 s) : Src Tryd.prog 1 22 (.slice (some ⟨R, 0, none⟩) s.size c) s.size (byteCells s) W := by
  refine Src.ofSlice W (e' := 5) Tryd.underlying22 ⟨R, 0, none⟩ s.size c (byteCells s) (by rw [byteCells_length, Nat.mul_one]) (fun j u hj => ?_) (fun u hu => ?_)
  · have hl : j < s.size := by
      rcases Nat.lt_or_ge j s.size with h' | h'
      · exact h'
      · rw [List.getElem?_eq_none (by rw [byteCells_length]; exact h')] at hj; cases hj
    have e : (⟨R, 0, none⟩ : Addr).add j = ⟨R, 0 + j, none⟩ := by unfold Addr.add; split <;> simp_all
    rw [e, h j hl]
    unfold byteCells at hj
    rw [List.getElem?_map, ← get_data s j hl] at hj
    exact hj
  · obtain ⟨_, _, rfl⟩ := List.mem_map.1 hu
    rfl

/-- The clone of what was old, as append reads it later. -/
theorem clone_old (s : ByteArray) (a : Option Addr) (cap : Nat) (w : World) (hs : s.size ≤ 131072) (h : (a = none ∧ s.size = 0) ∨ ∃ x, a = some x ∧ (s.size = 0 ∨ ∃ b o, x = ⟨b, o, none⟩ ∧ b < w.heap.size ∧ Bytes w b o s)) :
    Calls Tryd.prog 6 #[.slice a s.size cap] w fun e w' => ∃ a' c', e = .returned (.slice a' s.size c') ∧ Below w.heap.size w w' ∧ ∀ W, Below w'.heap.size w' W → Src Tryd.prog 1 22 (.slice a' s.size c') s.size (byteCells s) W := by
  rcases h with ⟨rfl, h0⟩ | ⟨x, rfl, h⟩
  · obtain rfl : s = ByteArray.empty := by
      apply ByteArray.ext
      exact Array.eq_empty_of_size_eq_zero h0
    refine (clone_nil _ cap w).mono fun e w' ⟨he, hw⟩ => ⟨none, 0, he, hw ▸ Below.refl _ _, fun W _ => ?_⟩
    exact Src.ofNil W (size := 1) Tryd.underlying22 0
  · refine (clone_any s x cap w hs h).mono fun e w' ⟨he, hw⟩ => ⟨_, _, he, hw ▸ below_one w (row s), fun W hW => ?_⟩
    subst hw
    exact src_of s _ _ W (bytes_below (row_bytes s w) hW (by simp))

/-- An append whose run is known, as a step of the walk. -/
theorem wpList_append_run {P : Program} {w w' : World} {ops : Array Oper} {rest : List Oper} {o : Oper} {a : Act} {Q : Exit → Act → World → Prop} (hgd : o.guard = none) (s x : Operand) (t : TypeId)
    (ho : o.op = .call { callee := .builtin .append, args := #[s, x], argTypes := #[t, t] }) (v u v' : Value) (hs : a.eval s = v) (hx : a.eval x = u)
    (hr : (Builtin.append_ #[t, t] o.type #[v, u]).run P w = .ok v' w') (h : wpList P ops Q rest (a.put o.dst v') w') : wpList P ops Q (o :: rest) a w :=
  wpList_plain hgd fun K hK => by
    unfold Oper.wp execOp
    simp only [ho, resolve, invoke, builtin, Sem.run_bind, Sem.run_pure, Result.andThen_ok, List.map_toArray, List.map_cons, List.map_nil, hs, hx, hr]
    exact hK _ _ h

/-- make([]byte, 0, n), for what will hold S. -/
theorem make_run (S : ByteArray) (n m : Nat) (w : World) (hn : S.size = n + m) (h : n + m ≤ 131072) :
    (Instr.makeSlice 22 (.int .i64 0) (.int .i64 ((n : Int) + (m : Int)))).run Tryd.prog w = .ok (.slice (some ⟨w.heap.size, 0, none⟩) 0 (n + m)) (w.alloc (.cells (bc S 0) 5)) := by
  have h := run_make (P := Tryd.prog) w 22 5 Tryd.t5 (.int .u8 0) Tryd.underlying22 (by kernel_rfl) rfl .i64 .i64 0 ((n : Int) + (m : Int)) (by omega) (by omega) (by show (1 : Int) * _ ≤ _; omega) (by omega)
  rw [show ((n : Int) + (m : Int)).toNat = n + m by omega, show (n + m) * Tryd.t5.size = n + m from Nat.mul_one _] at h
  rw [bc_zero, hn]
  exact h

theorem law2_out (a b : Option Addr) (n c m d : Nat) (w : World) (hn : n ≤ maxLen) (hm : m ≤ maxLen) (h : 131072 < n + m) :
    Calls Tryd.prog 4 #[.slice a n c, .slice b m d] w fun e w' => e = .returned (.bool true) ∧ Below w.heap.size w w' := by
  unfold maxLen at hn hm
  by_cases h1 : 1048576 < n + m
  · go_enter Tryd.func4, Tryd.ntmps4
    go_wp2_with (go_at_call 10; refine (bytes10_out _ _ _ _ _ _ _ (by unfold maxLen; omega) (by unfold maxLen; omega) h1).mono ?_; rintro e w' ⟨rfl, rfl⟩)
    go_ret
    exact ⟨rfl, Below.refl _ _⟩
  · have h2 : (n : Int) ≤ 1048576 := by omega
    have h3 : (m : Int) ≤ 1048576 := by omega
    have h4 : (n : Int) + (m : Int) ≤ 1048576 := by omega
    have h5 : (131072 : Int) < (n : Int) + (m : Int) := by omega
    go_enter Tryd.func4, Tryd.ntmps4
    go_wp2_with (go_at_call 10; refine (bytes10_in _ _ _ _ _ _ _ (by omega)).mono ?_; rintro e w' ⟨rfl, rfl⟩)
    go_ret
    exact ⟨rfl, Below.refl _ _⟩

/-- Fewer than five newlines. -/
theorem law2_few (a b : Option Addr) (n c m d : Nat) (w : World) (h : n + m ≤ 131072) (k : Nat) (hk : k < 5)
    (hc : Calls Tryd.prog 11 #[.slice b m d] w fun e w' => e = .returned (.int .i64 k) ∧ w' = w) :
    Calls Tryd.prog 4 #[.slice a n c, .slice b m d] w fun e w' => e = .returned (.bool true) ∧ Below w.heap.size w w' := by
  have h2 : (n : Int) ≤ 1048576 := by omega
  have h3 : (m : Int) ≤ 1048576 := by omega
  have h4 : (n : Int) + (m : Int) ≤ 131072 := by omega
  have h5 : (k : Int) < 5 := by omega
  have Hc := hideP hc
  clear hc
  go_enter Tryd.func4, Tryd.ntmps4
  go_wp2_with (first
    | (go_at_call 10; refine (bytes10_in _ _ _ _ _ _ _ (by omega)).mono ?_; rintro e w' ⟨rfl, hw⟩; have hw2 := hw.symm; subst hw2)
    | (go_at_call 11; refine Hc.out.mono ?_; rintro e w' ⟨rfl, hw⟩; have hw2 := hw.symm; subst hw2))
  go_ret
  exact ⟨rfl, Below.refl _ _⟩

set_option maxHeartbeats 1000000 in
theorem law2_many (s1 s2 T : ByteArray) (a : Option Addr) (cap b o cap2 : Nat) (w : World) (h : s1.size + s2.size ≤ 131072) (hT : TailOf s2 T) (h5 : 5 ≤ nls s2)
    (h1 : (a = none ∧ s1.size = 0) ∨ ∃ x, a = some x ∧ (s1.size = 0 ∨ ∃ b o, x = ⟨b, o, none⟩ ∧ b < w.heap.size ∧ Bytes w b o s1)) (hb : b < w.heap.size) (hc : Bytes w b o s2) :
    Calls Tryd.prog 4 #[.slice a s1.size cap, .slice (some ⟨b, o, none⟩) s2.size cap2] w fun e w' => e = .returned (.bool true) ∧ Below w.heap.size w w' := by
  have g2 : (s1.size : Int) ≤ 1048576 := by omega
  have g3 : (s2.size : Int) ≤ 1048576 := by omega
  have g4 : (s1.size : Int) + (s2.size : Int) ≤ 131072 := by omega
  have g5 : (5 : Int) ≤ (nls s2 : Int) := by omega
  have HT := hideP hT
  have Hcnt := hideP (count_some s2 b o cap2 w (by omega) hc)
  have Hold := hideP (clone_old s1 a cap w (by omega) h1)
  have HC := hideP hc
  clear hT hc h1 h5
  go_enter Tryd.func4, Tryd.ntmps4
  go_wp2_with (first
    | (go_at_call 10; refine (bytes10_in _ _ _ _ _ _ _ (by omega)).mono ?_; rintro e w' ⟨rfl, hw⟩; have hw2 := hw.symm; subst hw2)
    | (go_at_call 11; refine Hcnt.out.mono ?_; rintro e w' ⟨rfl, hw⟩; have hw2 := hw.symm; subst hw2))
  refine Hold.out.mono ?_
  rintro e w1 ⟨a', c', rfl, b1, hsrc⟩
  have Hsrc := hideP hsrc
  have Hrec := hideP (clone_some s2 b o cap2 w1 (by omega) (Nat.lt_of_lt_of_le hb b1.size) (bytes_below HC.out b1 hb))
  clear hsrc
  go_wp2_with fail
  refine Hrec.out.mono ?_
  rintro e w' ⟨rfl, rfl⟩
  clear Hrec Hold Hcnt
  obtain ⟨S, hS⟩ : ∃ S, s1 ++ s2 = S := ⟨_, rfl⟩
  have hSz : S.size = s1.size + s2.size := by rw [← hS]; exact append_size s1 s2
  have hz1 : (w1.alloc (row s2)).heap.size = w1.heap.size + 1 := by simp
  have hmk := make_run S s1.size s2.size (w1.alloc (row s2)) hSz (by omega)
  have bW : ∀ o, Below w1.heap.size w1 ((w1.alloc (row s2)).alloc o) := fun o => (below_one _ _).alloc (by simp) _
  have ha1 := append_run S s1 (.slice a' s1.size c') 0 (w1.alloc (row s2)) (by omega) (fun j hj h2 => by subst hS; exact append_left s1 s2 j hj h2) (Hsrc.out _ (bW _))
  have hR : ∀ o, Bytes ((w1.alloc (row s2)).alloc o) w1.heap.size 0 s2 := fun o => bytes_below (row_bytes s2 w1) (below_one _ _) (by simp)
  have ha2 := append_run S s2 (.slice (some ⟨w1.heap.size, 0, none⟩) s2.size s2.size) s1.size (w1.alloc (row s2)) (by omega) (fun j hj h2 => by subst hS; exact append_right s1 s2 j hj h2) (src_of s2 _ _ _ (hR _))
  rw [hz1] at hmk ha1 ha2
  rw [hSz] at ha1 ha2
  rw [Nat.zero_add] at ha1
  have hfull : bc S (s1.size + s2.size) = bc S S.size := by rw [hSz]
  rw [hfull] at ha2
  have HR := hideP hR
  have HS := hideP hS
  have HSz := hideP hSz
  have A1 := hideP ha1
  have A2 := hideP ha2
  clear hfull hz1 bW hR hS hSz ha1 ha2
  go_wp2_with (first
    | (at_builtin; refine wpList_append_run rfl (.tmp 47) (.tmp 48) 22 rfl _ _ _ rfl rfl A1.out ?_)
    | (at_builtin; refine wpList_append_run rfl (.tmp 50) (.tmp 51) 22 rfl _ _ _ rfl rfl A2.out ?_))
  refine (newTail_any _ ⟨_, _, _, rfl⟩ _).mono ?_
  rintro e w' ⟨rfl, rfl⟩
  clear A1 A2 Hsrc hmk
  obtain ⟨J, hJ⟩ : ∃ J : Value, J = .slice (some ⟨w1.heap.size + 1, 0, none⟩) (s1.size + s2.size) (s1.size + s2.size) := ⟨_, rfl⟩
  have bJ : Bytes (((w1.alloc (row s2)).alloc (row S)).alloc (.cells #[J] 33)) (w1.heap.size + 1) 0 S := by
    have h0 := row_bytes S (w1.alloc (row s2))
    rw [show (w1.alloc (row s2)).heap.size = w1.heap.size + 1 by simp] at h0
    exact bytes_below h0 (below_one _ _) (by simp)
  have bR : Bytes (((w1.alloc (row s2)).alloc (row S)).alloc (.cells #[J] 33)) w1.heap.size 0 s2 := bytes_below (HR.out _) (below_one _ _) (by simp only [World.size_alloc]; omega)
  have hcv := run_convert_whole (P := Tryd.prog) _ 22 5 9 Tryd.underlying22 Tryd.underlying5 Tryd.underlying9 _ 0 S bJ (s1.size + s2.size)
  rw [HSz.out] at hcv
  have ht1 := zztail_walk S J (w1.heap.size + 1 + 1) (((w1.alloc (row s2)).alloc (row S)).alloc (.cells #[J] 33)) (by rw [HSz.out]; omega) (by
    have := cell_held ((w1.alloc (row s2)).alloc (row S)) J
    rw [show ((w1.alloc (row s2)).alloc (row S)).heap.size = w1.heap.size + 1 + 1 by simp] at this
    exact this) (by rw [hJ]; rw [hJ] at hcv; exact hcv)
  rw [← HS.out, HT.out.any s1, HS.out] at ht1
  have Ht1 := hideP ht1
  have BR := hideP bR
  rw [hJ] at Ht1 BR
  clear hcv ht1 bR bJ hJ J HR HSz HS
  go_wp2_with fail
  refine Ht1.out.mono ?_
  rintro e w4 ⟨rfl, b4⟩
  have b14 : Below w.heap.size w w4 := b1.trans ((((below_one w1 (row s2)).alloc (by simp) _).alloc (by simp only [World.size_alloc]; omega) _ |>.mono b1.size).trans (b4.mono (by simp only [World.size_alloc]; have := b1.size; omega)))
  have hR4 := bytes_below BR.out b4 (by simp only [World.size_alloc]; omega)
  have hlt4 : w1.heap.size < w4.heap.size := by have := b4.size; simp only [World.size_alloc] at this; omega
  clear Ht1 BR b4 b1
  generalize w1.heap.size = R at *
  clear HC
  go_wp2_with fail
  refine (newTail_any _ ⟨_, _, _, rfl⟩ _).mono ?_
  rintro e w' ⟨rfl, rfl⟩
  have hR5 := bytes_below hR4 (below_one w4 (.cells #[.slice (some ⟨R, 0, none⟩) s2.size s2.size] 33)) hlt4
  have hcv := run_convert_whole (P := Tryd.prog) _ 22 5 9 Tryd.underlying22 Tryd.underlying5 Tryd.underlying9 R 0 s2 hR5 s2.size
  have ht2 := zztail_walk s2 _ w4.heap.size _ (by omega) (cell_held w4 (.slice (some ⟨R, 0, none⟩) s2.size s2.size)) hcv
  rw [HT.out.is] at ht2
  have Ht2 := hideP ht2
  have HR5 := hideP hR5
  clear hcv ht2 hR5 hR4
  go_wp2_with fail
  refine Ht2.out.mono ?_
  rintro e w5 ⟨rfl, b5⟩
  have b15 : Below w.heap.size w w5 := b14.trans (((below_one w4 _).trans (b5.mono (by simp))).mono b14.size)
  have hR := bytes_below HR5.out b5 (by simp only [World.size_alloc]; omega)
  have hlt5 : R < w5.heap.size := by have := b5.size; simp only [World.size_alloc] at this; omega
  clear Ht2 HR5 b5 b14 hlt4
  have hless := HT.out.less
  have hne : ¬ (s2.size : Int) ≤ (T.size : Int) := by omega
  have i0 : s2.size - T.size - 1 < s2.size := by omega
  have hah : w5.cell? ⟨R, s2.size - T.size - 1, none⟩ = some (.int .u8 10) := by
    have := hR _ i0
    rwa [HT.out.ahead i0, Nat.zero_add] at this
  have hix : ((s2.size : Int) - (T.size : Int) - 1) = ((s2.size - T.size - 1 : Nat) : Int) := by omega
  have HRR := hideP hR
  clear hR
  go_wp2_with fail
  clear hah i0
  go_loopw [9] (fun i wr => ∃ k : Nat, k ≤ T.size ∧ i = .int .i64 k ∧ Below w.heap.size w wr ∧ Hid (Bytes wr R 0 s2)) (fun i _ => T.size - (intOf i).toNat)
  case atStart => exact ⟨0, Nat.zero_le _, rfl, b15, HRR⟩
  case round =>
    obtain ⟨k, hk, rfl, bk, HB⟩ := hrel
    clear HRR b15 hix
    by_cases hlt : k < T.size
    · have j0 : s2.size - T.size + k < s2.size := by omega
      have hck : wr.cell? ⟨R, s2.size - T.size + k, none⟩ = some (.int .u8 (T[k].toNat : Int)) := by
        have := HB.out _ j0
        rwa [HT.out.same k hlt j0, Nat.zero_add] at this
      have hix : ((s2.size : Int) - (T.size : Int) + (k : Int)) = ((s2.size - T.size + k : Nat) : Int) := by omega
      have hkz : (k : Int) < (T.size : Int) := by omega
      have hjz : ((s2.size - T.size + k : Nat) : Int) < (s2.size : Int) := by omega
      go_wp2_with fail
      go_quiet (fail)
      go_wp2_with fail
      go_roundw
      case rel => exact ⟨k + 1, by omega, by go_num, below_drewN bk _, HB.out.drewN _⟩
      case measure => (simp [intOf]; try omega)
    · have Hf := hideP HT.out.four
      go_wp2_with fail
      refine (countString_any T wr (by omega)).mono ?_
      rintro e w' ⟨rfl, hw⟩
      rw [Hf.out]
      have hw2 := hw.symm
      subst hw2
      go_wp2_with fail
      go_ret
      exact ⟨rfl, bk⟩
end Go.Proofs.Qxb6612424aDoor
