/-
  The walk of isFloatTail.
-/
import Derived.Test.Qxb6613685aGreatFmtLay
import Derived.Test.Qxb6613685aGreatFmtSmall
import Derived.Lib.CutLaws
namespace Go.Proofs.Qxb6613685aGreatFmt
open Go.RowKit
open Go.Lib hiding intOf

theorem ascii_digs : ∀ (j : Nat) b, (⟨#[48, 49, 50, 51, 52, 53, 54, 55, 56, 57]⟩ : ByteArray).data.toList[j]? = some b → b.toNat < 128 := by
  intro j b h
  have := List.mem_of_getElem? h
  simp at this
  rcases this with rfl | rfl | rfl | rfl | rfl | rfl | rfl | rfl | rfl | rfl <;> decide
theorem ascii_signs : ∀ (j : Nat) b, (⟨#[43, 45]⟩ : ByteArray).data.toList[j]? = some b → b.toNat < 128 := by
  intro j b h
  have := List.mem_of_getElem? h
  simp at this
  rcases this with rfl | rfl <;> decide
/-- A string of these bytes. -/
def str (l : List UInt8) : ByteArray := ⟨l.toArray⟩
theorem str_data (l : List UInt8) : (str l).data.toList = l := rfl
theorem str_size (l : List UInt8) : (str l).size = l.length := rfl
theorem str_of (s : ByteArray) : str s.data.toList = s := rfl

theorem trimLeft_digs (s : ByteArray) (w : World) : Calls Tryz.prog 21 #[.string s, .string ⟨#[48, 49, 50, 51, 52, 53, 54, 55, 56, 57]⟩] w fun e w' => e = .returned (.string (str (trimLeftS s.data.toList digs))) ∧ Below w.heap.size w w' :=
  Any.strings_TrimLeft_laid Tryz.lays161 (by kernel_rfl) s _ w (by decide) ascii_digs
theorem trimLeft_signs (s : ByteArray) (w : World) : Calls Tryz.prog 21 #[.string s, .string ⟨#[43, 45]⟩] w fun e w' => e = .returned (.string (str (trimLeftS s.data.toList signs))) ∧ Below w.heap.size w w' :=
  Any.strings_TrimLeft_laid Tryz.lays161 (by kernel_rfl) s _ w (by decide) ascii_signs
theorem trim_digs (s : ByteArray) (w : World) (hs : s.size ≤ 131072) : Calls Tryz.prog 25 #[.string s, .string ⟨#[48, 49, 50, 51, 52, 53, 54, 55, 56, 57]⟩] w fun e w' => e = .returned (.string (str (trimS s.data.toList digs))) ∧ Below w.heap.size w w' :=
  Any.strings_Trim_laid Tryz.lays160 (by kernel_rfl) s _ w (by omega) (by decide) ascii_digs
theorem trimSuffix_M (s : ByteArray) (w : World) (hs : s.size ≤ 131072) : Calls Tryz.prog 23 #[.string s, .string ⟨#[77]⟩] w fun e w' => e = .returned (.string (str (trimSuffix s.data.toList [77]))) ∧ w' = w :=
  Any.strings_TrimSuffix Tryz.lays102 s ⟨#[77]⟩ w (by omega)
theorem trimSuffix_N (s : ByteArray) (w : World) (hs : s.size ≤ 131072) : Calls Tryz.prog 23 #[.string s, .string ⟨#[78]⟩] w fun e w' => e = .returned (.string (str (trimSuffix s.data.toList [78]))) ∧ w' = w :=
  Any.strings_TrimSuffix Tryz.lays102 s ⟨#[78]⟩ w (by omega)
theorem cutPrefix_dot (s : ByteArray) (w : World) : Calls Tryz.prog 45 #[.string s, .string ⟨#[46]⟩] w fun e w' => e = .returned (.tuple #[.string (str (trimPrefix s.data.toList [46])), .bool (hasPrefix s.data.toList [46])]) ∧ w' = w :=
  Any.strings_CutPrefix Tryz.lays103 s ⟨#[46]⟩ w




/-! ### leaves -/

theorem list_data (s : ByteArray) : s.toList = s.data.toList := ByteArray.toList_eq s
theorem empty_str (l : List UInt8) : (str l).toList.isEmpty = decide (l = []) := by
  rw [list_data, str_data]
  cases l <;> rfl
theorem tail_data (s : ByteArray) : (s.extract 1 s.size).data.toList = s.data.toList.tail := by
  cases h : s.data.toList with
  | nil => simp [ByteArray.data_extract, h]
  | cons c r =>
    have h2 : s.size = r.length + 1 := by rw [← data_length, h]; rfl
    simp [ByteArray.data_extract, h, h2]

set_option maxHeartbeats 400000 in
theorem float_nE (s : ByteArray) (w : World) (hs : s.size ≤ 131072) (x : ByteArray)  (hx : Hid (str (trimSuffix s.data.toList [77]) = x)) (hp : Hid (hasPrefix x.data.toList [46] = false)) (_hl : x.toList = []) :
    Calls Tryz.prog 26 #[.string s] w fun e w' => e = .returned (.bool (true)) ∧ Below w.heap.size w w' := by
  go_enter Tryz.func26, Tryz.ntmps26
  go_wp2_with (first
    | (go_at_call 23; refine (trimSuffix_M s _ hs).mono ?_; rintro e w2 ⟨rfl, hw⟩; have hw2 := hw.symm; subst hw2; rw [hx.out])
    | (go_at_call 45; refine (cutPrefix_dot x _).mono ?_; rintro e w2 ⟨rfl, hw⟩; have hw2 := hw.symm; subst hw2; rw [hp.out]))
  go_ret
  exact ⟨by first | rfl | (congr 1; congr 1) | simp, Below.refl _ _⟩

set_option maxHeartbeats 400000 in
theorem float_nN (s : ByteArray) (w : World) (hs : s.size ≤ 131072) (x : ByteArray)  (hx : Hid (str (trimSuffix s.data.toList [77]) = x)) (hp : Hid (hasPrefix x.data.toList [46] = false)) (_h0 : 0 < x.size) (_he : x.toList.isEmpty = false) (_hl : ¬ x.toList = []) (_ha : ¬ (x[0].toNat : Int) = 101) (_hb : ¬ (x[0].toNat : Int) = 69) (_ha2 : ((x[0].toNat : Int) == 101) = false) (_hb2 : ((x[0].toNat : Int) == 69) = false) :
    Calls Tryz.prog 26 #[.string s] w fun e w' => e = .returned (.bool (false)) ∧ Below w.heap.size w w' := by
  go_enter Tryz.func26, Tryz.ntmps26
  go_wp2_with (first
    | (go_at_call 23; refine (trimSuffix_M s _ hs).mono ?_; rintro e w2 ⟨rfl, hw⟩; have hw2 := hw.symm; subst hw2; rw [hx.out])
    | (go_at_call 45; refine (cutPrefix_dot x _).mono ?_; rintro e w2 ⟨rfl, hw⟩; have hw2 := hw.symm; subst hw2; rw [hp.out]))
  go_ret
  exact ⟨by first | rfl | (congr 1; congr 1) | simp, Below.refl _ _⟩

set_option maxHeartbeats 400000 in
theorem float_neE (s : ByteArray) (w : World) (hs : s.size ≤ 131072) (x : ByteArray)  (hx : Hid (str (trimSuffix s.data.toList [77]) = x)) (hp : Hid (hasPrefix x.data.toList [46] = false)) (_h0 : 0 < x.size) (_he : x.toList.isEmpty = false) (_hl : ¬ x.toList = []) (_ha : (x[0].toNat : Int) = 101) (_hy : (x.extract 1 x.size).toList = []) :
    Calls Tryz.prog 26 #[.string s] w fun e w' => e = .returned (.bool (false)) ∧ Below w.heap.size w w' := by
  go_enter Tryz.func26, Tryz.ntmps26
  go_wp2_with (first
    | (go_at_call 23; refine (trimSuffix_M s _ hs).mono ?_; rintro e w2 ⟨rfl, hw⟩; have hw2 := hw.symm; subst hw2; rw [hx.out])
    | (go_at_call 45; refine (cutPrefix_dot x _).mono ?_; rintro e w2 ⟨rfl, hw⟩; have hw2 := hw.symm; subst hw2; rw [hp.out]))
  go_ret
  exact ⟨by first | rfl | (congr 1; congr 1) | simp, Below.refl _ _⟩

set_option maxHeartbeats 400000 in
theorem float_neN (s : ByteArray) (w : World) (hs : s.size ≤ 131072) (x : ByteArray) (hq : x.size ≤ 131072) (hx : Hid (str (trimSuffix s.data.toList [77]) = x)) (hp : Hid (hasPrefix x.data.toList [46] = false)) (T : ByteArray) (hT : Hid ((str (trimS (x.extract 1 x.size).data.toList digs)) = T)) (_h0 : 0 < x.size) (_he : x.toList.isEmpty = false) (_hl : ¬ x.toList = []) (_ha : (x[0].toNat : Int) = 101) (_k0 : 0 < x.size - 1) (_ke : (x.extract 1 x.size).toList.isEmpty = false) (_kl : ¬ (x.extract 1 x.size).toList = []) (_ka : ¬ (((x.extract 1 x.size)[0]'(by rw [ByteArray.size_extract]; omega)).toNat : Int) = 43) (_kb : ¬ (((x.extract 1 x.size)[0]'(by rw [ByteArray.size_extract]; omega)).toNat : Int) = 45) (_ka2 : ((((x.extract 1 x.size)[0]'(by rw [ByteArray.size_extract]; omega)).toNat : Int) == 43) = false) (_kb2 : ((((x.extract 1 x.size)[0]'(by rw [ByteArray.size_extract]; omega)).toNat : Int) == 45) = false) :
    Calls Tryz.prog 26 #[.string s] w fun e w' => e = .returned (.bool (T.toList.isEmpty)) ∧ Below w.heap.size w w' := by
  go_enter Tryz.func26, Tryz.ntmps26
  go_wp2_with (first
    | (go_at_call 23; refine (trimSuffix_M s _ hs).mono ?_; rintro e w2 ⟨rfl, hw⟩; have hw2 := hw.symm; subst hw2; rw [hx.out])
    | (go_at_call 45; refine (cutPrefix_dot x _).mono ?_; rintro e w2 ⟨rfl, hw⟩; have hw2 := hw.symm; subst hw2; rw [hp.out])
    | (go_at_call 25; refine (trim_digs _ _ (by simp only [ByteArray.size_extract]; omega)).mono ?_; rintro e w3 ⟨rfl, hw3⟩; rw [hT.out]))
  go_ret
  exact ⟨by first | rfl | (congr 1; congr 1) | simp, hw3⟩

set_option maxHeartbeats 400000 in
theorem float_nepE (s : ByteArray) (w : World) (hs : s.size ≤ 131072) (x : ByteArray)  (hx : Hid (str (trimSuffix s.data.toList [77]) = x)) (hp : Hid (hasPrefix x.data.toList [46] = false)) (_h0 : 0 < x.size) (_he : x.toList.isEmpty = false) (_hl : ¬ x.toList = []) (_ha : (x[0].toNat : Int) = 101) (_k0 : 0 < x.size - 1) (_ke : (x.extract 1 x.size).toList.isEmpty = false) (_kl : ¬ (x.extract 1 x.size).toList = []) (_ka : (((x.extract 1 x.size)[0]'(by rw [ByteArray.size_extract]; omega)).toNat : Int) = 43) (_hz : ((x.extract 1 x.size).extract 1 (x.size - 1)).toList = []) :
    Calls Tryz.prog 26 #[.string s] w fun e w' => e = .returned (.bool (false)) ∧ Below w.heap.size w w' := by
  go_enter Tryz.func26, Tryz.ntmps26
  go_wp2_with (first
    | (go_at_call 23; refine (trimSuffix_M s _ hs).mono ?_; rintro e w2 ⟨rfl, hw⟩; have hw2 := hw.symm; subst hw2; rw [hx.out])
    | (go_at_call 45; refine (cutPrefix_dot x _).mono ?_; rintro e w2 ⟨rfl, hw⟩; have hw2 := hw.symm; subst hw2; rw [hp.out]))
  go_ret
  exact ⟨by first | rfl | (congr 1; congr 1) | simp, Below.refl _ _⟩

set_option maxHeartbeats 400000 in
theorem float_nepN (s : ByteArray) (w : World) (hs : s.size ≤ 131072) (x : ByteArray) (hq : x.size ≤ 131072) (hx : Hid (str (trimSuffix s.data.toList [77]) = x)) (hp : Hid (hasPrefix x.data.toList [46] = false)) (T : ByteArray) (hT : Hid ((str (trimS ((x.extract 1 x.size).extract 1 (x.size - 1)).data.toList digs)) = T)) (_h0 : 0 < x.size) (_he : x.toList.isEmpty = false) (_hl : ¬ x.toList = []) (_ha : (x[0].toNat : Int) = 101) (_k0 : 0 < x.size - 1) (_ke : (x.extract 1 x.size).toList.isEmpty = false) (_kl : ¬ (x.extract 1 x.size).toList = []) (_ka : (((x.extract 1 x.size)[0]'(by rw [ByteArray.size_extract]; omega)).toNat : Int) = 43) (_ze : ((x.extract 1 x.size).extract 1 (x.size - 1)).toList.isEmpty = false) (_zl : ¬ ((x.extract 1 x.size).extract 1 (x.size - 1)).toList = []) :
    Calls Tryz.prog 26 #[.string s] w fun e w' => e = .returned (.bool (T.toList.isEmpty)) ∧ Below w.heap.size w w' := by
  go_enter Tryz.func26, Tryz.ntmps26
  go_wp2_with (first
    | (go_at_call 23; refine (trimSuffix_M s _ hs).mono ?_; rintro e w2 ⟨rfl, hw⟩; have hw2 := hw.symm; subst hw2; rw [hx.out])
    | (go_at_call 45; refine (cutPrefix_dot x _).mono ?_; rintro e w2 ⟨rfl, hw⟩; have hw2 := hw.symm; subst hw2; rw [hp.out])
    | (go_at_call 25; refine (trim_digs _ _ (by simp only [ByteArray.size_extract]; omega)).mono ?_; rintro e w3 ⟨rfl, hw3⟩; rw [hT.out]))
  go_ret
  exact ⟨by first | rfl | (congr 1; congr 1) | simp, hw3⟩

set_option maxHeartbeats 400000 in
theorem float_nemE (s : ByteArray) (w : World) (hs : s.size ≤ 131072) (x : ByteArray)  (hx : Hid (str (trimSuffix s.data.toList [77]) = x)) (hp : Hid (hasPrefix x.data.toList [46] = false)) (_h0 : 0 < x.size) (_he : x.toList.isEmpty = false) (_hl : ¬ x.toList = []) (_ha : (x[0].toNat : Int) = 101) (_k0 : 0 < x.size - 1) (_ke : (x.extract 1 x.size).toList.isEmpty = false) (_kl : ¬ (x.extract 1 x.size).toList = []) (_ka : ¬ (((x.extract 1 x.size)[0]'(by rw [ByteArray.size_extract]; omega)).toNat : Int) = 43) (_kb : (((x.extract 1 x.size)[0]'(by rw [ByteArray.size_extract]; omega)).toNat : Int) = 45) (_hz : ((x.extract 1 x.size).extract 1 (x.size - 1)).toList = []) :
    Calls Tryz.prog 26 #[.string s] w fun e w' => e = .returned (.bool (false)) ∧ Below w.heap.size w w' := by
  go_enter Tryz.func26, Tryz.ntmps26
  go_wp2_with (first
    | (go_at_call 23; refine (trimSuffix_M s _ hs).mono ?_; rintro e w2 ⟨rfl, hw⟩; have hw2 := hw.symm; subst hw2; rw [hx.out])
    | (go_at_call 45; refine (cutPrefix_dot x _).mono ?_; rintro e w2 ⟨rfl, hw⟩; have hw2 := hw.symm; subst hw2; rw [hp.out]))
  go_ret
  exact ⟨by first | rfl | (congr 1; congr 1) | simp, Below.refl _ _⟩

set_option maxHeartbeats 400000 in
theorem float_nemN (s : ByteArray) (w : World) (hs : s.size ≤ 131072) (x : ByteArray) (hq : x.size ≤ 131072) (hx : Hid (str (trimSuffix s.data.toList [77]) = x)) (hp : Hid (hasPrefix x.data.toList [46] = false)) (T : ByteArray) (hT : Hid ((str (trimS ((x.extract 1 x.size).extract 1 (x.size - 1)).data.toList digs)) = T)) (_h0 : 0 < x.size) (_he : x.toList.isEmpty = false) (_hl : ¬ x.toList = []) (_ha : (x[0].toNat : Int) = 101) (_k0 : 0 < x.size - 1) (_ke : (x.extract 1 x.size).toList.isEmpty = false) (_kl : ¬ (x.extract 1 x.size).toList = []) (_ka : ¬ (((x.extract 1 x.size)[0]'(by rw [ByteArray.size_extract]; omega)).toNat : Int) = 43) (_kb : (((x.extract 1 x.size)[0]'(by rw [ByteArray.size_extract]; omega)).toNat : Int) = 45) (_ze : ((x.extract 1 x.size).extract 1 (x.size - 1)).toList.isEmpty = false) (_zl : ¬ ((x.extract 1 x.size).extract 1 (x.size - 1)).toList = []) :
    Calls Tryz.prog 26 #[.string s] w fun e w' => e = .returned (.bool (T.toList.isEmpty)) ∧ Below w.heap.size w w' := by
  go_enter Tryz.func26, Tryz.ntmps26
  go_wp2_with (first
    | (go_at_call 23; refine (trimSuffix_M s _ hs).mono ?_; rintro e w2 ⟨rfl, hw⟩; have hw2 := hw.symm; subst hw2; rw [hx.out])
    | (go_at_call 45; refine (cutPrefix_dot x _).mono ?_; rintro e w2 ⟨rfl, hw⟩; have hw2 := hw.symm; subst hw2; rw [hp.out])
    | (go_at_call 25; refine (trim_digs _ _ (by simp only [ByteArray.size_extract]; omega)).mono ?_; rintro e w3 ⟨rfl, hw3⟩; rw [hT.out]))
  go_ret
  exact ⟨by first | rfl | (congr 1; congr 1) | simp, hw3⟩

set_option maxHeartbeats 400000 in
theorem float_nfE (s : ByteArray) (w : World) (hs : s.size ≤ 131072) (x : ByteArray)  (hx : Hid (str (trimSuffix s.data.toList [77]) = x)) (hp : Hid (hasPrefix x.data.toList [46] = false)) (_h0 : 0 < x.size) (_he : x.toList.isEmpty = false) (_hl : ¬ x.toList = []) (_ha : ¬ (x[0].toNat : Int) = 101) (_hb : (x[0].toNat : Int) = 69) (_hy : (x.extract 1 x.size).toList = []) :
    Calls Tryz.prog 26 #[.string s] w fun e w' => e = .returned (.bool (false)) ∧ Below w.heap.size w w' := by
  go_enter Tryz.func26, Tryz.ntmps26
  go_wp2_with (first
    | (go_at_call 23; refine (trimSuffix_M s _ hs).mono ?_; rintro e w2 ⟨rfl, hw⟩; have hw2 := hw.symm; subst hw2; rw [hx.out])
    | (go_at_call 45; refine (cutPrefix_dot x _).mono ?_; rintro e w2 ⟨rfl, hw⟩; have hw2 := hw.symm; subst hw2; rw [hp.out]))
  go_ret
  exact ⟨by first | rfl | (congr 1; congr 1) | simp, Below.refl _ _⟩

set_option maxHeartbeats 400000 in
theorem float_nfN (s : ByteArray) (w : World) (hs : s.size ≤ 131072) (x : ByteArray) (hq : x.size ≤ 131072) (hx : Hid (str (trimSuffix s.data.toList [77]) = x)) (hp : Hid (hasPrefix x.data.toList [46] = false)) (T : ByteArray) (hT : Hid ((str (trimS (x.extract 1 x.size).data.toList digs)) = T)) (_h0 : 0 < x.size) (_he : x.toList.isEmpty = false) (_hl : ¬ x.toList = []) (_ha : ¬ (x[0].toNat : Int) = 101) (_hb : (x[0].toNat : Int) = 69) (_k0 : 0 < x.size - 1) (_ke : (x.extract 1 x.size).toList.isEmpty = false) (_kl : ¬ (x.extract 1 x.size).toList = []) (_ka : ¬ (((x.extract 1 x.size)[0]'(by rw [ByteArray.size_extract]; omega)).toNat : Int) = 43) (_kb : ¬ (((x.extract 1 x.size)[0]'(by rw [ByteArray.size_extract]; omega)).toNat : Int) = 45) (_ka2 : ((((x.extract 1 x.size)[0]'(by rw [ByteArray.size_extract]; omega)).toNat : Int) == 43) = false) (_kb2 : ((((x.extract 1 x.size)[0]'(by rw [ByteArray.size_extract]; omega)).toNat : Int) == 45) = false) :
    Calls Tryz.prog 26 #[.string s] w fun e w' => e = .returned (.bool (T.toList.isEmpty)) ∧ Below w.heap.size w w' := by
  go_enter Tryz.func26, Tryz.ntmps26
  go_wp2_with (first
    | (go_at_call 23; refine (trimSuffix_M s _ hs).mono ?_; rintro e w2 ⟨rfl, hw⟩; have hw2 := hw.symm; subst hw2; rw [hx.out])
    | (go_at_call 45; refine (cutPrefix_dot x _).mono ?_; rintro e w2 ⟨rfl, hw⟩; have hw2 := hw.symm; subst hw2; rw [hp.out])
    | (go_at_call 25; refine (trim_digs _ _ (by simp only [ByteArray.size_extract]; omega)).mono ?_; rintro e w3 ⟨rfl, hw3⟩; rw [hT.out]))
  go_ret
  exact ⟨by first | rfl | (congr 1; congr 1) | simp, hw3⟩

set_option maxHeartbeats 400000 in
theorem float_nfpE (s : ByteArray) (w : World) (hs : s.size ≤ 131072) (x : ByteArray)  (hx : Hid (str (trimSuffix s.data.toList [77]) = x)) (hp : Hid (hasPrefix x.data.toList [46] = false)) (_h0 : 0 < x.size) (_he : x.toList.isEmpty = false) (_hl : ¬ x.toList = []) (_ha : ¬ (x[0].toNat : Int) = 101) (_hb : (x[0].toNat : Int) = 69) (_k0 : 0 < x.size - 1) (_ke : (x.extract 1 x.size).toList.isEmpty = false) (_kl : ¬ (x.extract 1 x.size).toList = []) (_ka : (((x.extract 1 x.size)[0]'(by rw [ByteArray.size_extract]; omega)).toNat : Int) = 43) (_hz : ((x.extract 1 x.size).extract 1 (x.size - 1)).toList = []) :
    Calls Tryz.prog 26 #[.string s] w fun e w' => e = .returned (.bool (false)) ∧ Below w.heap.size w w' := by
  go_enter Tryz.func26, Tryz.ntmps26
  go_wp2_with (first
    | (go_at_call 23; refine (trimSuffix_M s _ hs).mono ?_; rintro e w2 ⟨rfl, hw⟩; have hw2 := hw.symm; subst hw2; rw [hx.out])
    | (go_at_call 45; refine (cutPrefix_dot x _).mono ?_; rintro e w2 ⟨rfl, hw⟩; have hw2 := hw.symm; subst hw2; rw [hp.out]))
  go_ret
  exact ⟨by first | rfl | (congr 1; congr 1) | simp, Below.refl _ _⟩

set_option maxHeartbeats 400000 in
theorem float_nfpN (s : ByteArray) (w : World) (hs : s.size ≤ 131072) (x : ByteArray) (hq : x.size ≤ 131072) (hx : Hid (str (trimSuffix s.data.toList [77]) = x)) (hp : Hid (hasPrefix x.data.toList [46] = false)) (T : ByteArray) (hT : Hid ((str (trimS ((x.extract 1 x.size).extract 1 (x.size - 1)).data.toList digs)) = T)) (_h0 : 0 < x.size) (_he : x.toList.isEmpty = false) (_hl : ¬ x.toList = []) (_ha : ¬ (x[0].toNat : Int) = 101) (_hb : (x[0].toNat : Int) = 69) (_k0 : 0 < x.size - 1) (_ke : (x.extract 1 x.size).toList.isEmpty = false) (_kl : ¬ (x.extract 1 x.size).toList = []) (_ka : (((x.extract 1 x.size)[0]'(by rw [ByteArray.size_extract]; omega)).toNat : Int) = 43) (_ze : ((x.extract 1 x.size).extract 1 (x.size - 1)).toList.isEmpty = false) (_zl : ¬ ((x.extract 1 x.size).extract 1 (x.size - 1)).toList = []) :
    Calls Tryz.prog 26 #[.string s] w fun e w' => e = .returned (.bool (T.toList.isEmpty)) ∧ Below w.heap.size w w' := by
  go_enter Tryz.func26, Tryz.ntmps26
  go_wp2_with (first
    | (go_at_call 23; refine (trimSuffix_M s _ hs).mono ?_; rintro e w2 ⟨rfl, hw⟩; have hw2 := hw.symm; subst hw2; rw [hx.out])
    | (go_at_call 45; refine (cutPrefix_dot x _).mono ?_; rintro e w2 ⟨rfl, hw⟩; have hw2 := hw.symm; subst hw2; rw [hp.out])
    | (go_at_call 25; refine (trim_digs _ _ (by simp only [ByteArray.size_extract]; omega)).mono ?_; rintro e w3 ⟨rfl, hw3⟩; rw [hT.out]))
  go_ret
  exact ⟨by first | rfl | (congr 1; congr 1) | simp, hw3⟩

set_option maxHeartbeats 400000 in
theorem float_nfmE (s : ByteArray) (w : World) (hs : s.size ≤ 131072) (x : ByteArray)  (hx : Hid (str (trimSuffix s.data.toList [77]) = x)) (hp : Hid (hasPrefix x.data.toList [46] = false)) (_h0 : 0 < x.size) (_he : x.toList.isEmpty = false) (_hl : ¬ x.toList = []) (_ha : ¬ (x[0].toNat : Int) = 101) (_hb : (x[0].toNat : Int) = 69) (_k0 : 0 < x.size - 1) (_ke : (x.extract 1 x.size).toList.isEmpty = false) (_kl : ¬ (x.extract 1 x.size).toList = []) (_ka : ¬ (((x.extract 1 x.size)[0]'(by rw [ByteArray.size_extract]; omega)).toNat : Int) = 43) (_kb : (((x.extract 1 x.size)[0]'(by rw [ByteArray.size_extract]; omega)).toNat : Int) = 45) (_hz : ((x.extract 1 x.size).extract 1 (x.size - 1)).toList = []) :
    Calls Tryz.prog 26 #[.string s] w fun e w' => e = .returned (.bool (false)) ∧ Below w.heap.size w w' := by
  go_enter Tryz.func26, Tryz.ntmps26
  go_wp2_with (first
    | (go_at_call 23; refine (trimSuffix_M s _ hs).mono ?_; rintro e w2 ⟨rfl, hw⟩; have hw2 := hw.symm; subst hw2; rw [hx.out])
    | (go_at_call 45; refine (cutPrefix_dot x _).mono ?_; rintro e w2 ⟨rfl, hw⟩; have hw2 := hw.symm; subst hw2; rw [hp.out]))
  go_ret
  exact ⟨by first | rfl | (congr 1; congr 1) | simp, Below.refl _ _⟩

set_option maxHeartbeats 400000 in
theorem float_nfmN (s : ByteArray) (w : World) (hs : s.size ≤ 131072) (x : ByteArray) (hq : x.size ≤ 131072) (hx : Hid (str (trimSuffix s.data.toList [77]) = x)) (hp : Hid (hasPrefix x.data.toList [46] = false)) (T : ByteArray) (hT : Hid ((str (trimS ((x.extract 1 x.size).extract 1 (x.size - 1)).data.toList digs)) = T)) (_h0 : 0 < x.size) (_he : x.toList.isEmpty = false) (_hl : ¬ x.toList = []) (_ha : ¬ (x[0].toNat : Int) = 101) (_hb : (x[0].toNat : Int) = 69) (_k0 : 0 < x.size - 1) (_ke : (x.extract 1 x.size).toList.isEmpty = false) (_kl : ¬ (x.extract 1 x.size).toList = []) (_ka : ¬ (((x.extract 1 x.size)[0]'(by rw [ByteArray.size_extract]; omega)).toNat : Int) = 43) (_kb : (((x.extract 1 x.size)[0]'(by rw [ByteArray.size_extract]; omega)).toNat : Int) = 45) (_ze : ((x.extract 1 x.size).extract 1 (x.size - 1)).toList.isEmpty = false) (_zl : ¬ ((x.extract 1 x.size).extract 1 (x.size - 1)).toList = []) :
    Calls Tryz.prog 26 #[.string s] w fun e w' => e = .returned (.bool (T.toList.isEmpty)) ∧ Below w.heap.size w w' := by
  go_enter Tryz.func26, Tryz.ntmps26
  go_wp2_with (first
    | (go_at_call 23; refine (trimSuffix_M s _ hs).mono ?_; rintro e w2 ⟨rfl, hw⟩; have hw2 := hw.symm; subst hw2; rw [hx.out])
    | (go_at_call 45; refine (cutPrefix_dot x _).mono ?_; rintro e w2 ⟨rfl, hw⟩; have hw2 := hw.symm; subst hw2; rw [hp.out])
    | (go_at_call 25; refine (trim_digs _ _ (by simp only [ByteArray.size_extract]; omega)).mono ?_; rintro e w3 ⟨rfl, hw3⟩; rw [hT.out]))
  go_ret
  exact ⟨by first | rfl | (congr 1; congr 1) | simp, hw3⟩

set_option maxHeartbeats 400000 in
theorem float_dE (s : ByteArray) (w : World) (hs : s.size ≤ 131072) (x : ByteArray)  (x0 : ByteArray) (hx : Hid (str (trimSuffix s.data.toList [77]) = x0)) (hp : Hid (hasPrefix x0.data.toList [46] = true)) (ht : Hid (str (trimLeftS (str (trimPrefix x0.data.toList [46])).data.toList digs) = x)) (_hl : x.toList = []) :
    Calls Tryz.prog 26 #[.string s] w fun e w' => e = .returned (.bool (true)) ∧ Below w.heap.size w w' := by
  go_enter Tryz.func26, Tryz.ntmps26
  go_wp2_with (first
    | (go_at_call 23; refine (trimSuffix_M s _ hs).mono ?_; rintro e w2 ⟨rfl, hw⟩; have hw2 := hw.symm; subst hw2; rw [hx.out])
    | (go_at_call 45; refine (cutPrefix_dot x0 _).mono ?_; rintro e w2 ⟨rfl, hw⟩; have hw2 := hw.symm; subst hw2; rw [hp.out])
    | (go_at_call 21; refine (trimLeft_digs _ _).mono ?_; rintro e w1 ⟨rfl, hw1⟩; rw [ht.out]))
  go_ret
  exact ⟨by first | rfl | (congr 1; congr 1) | simp, hw1⟩

set_option maxHeartbeats 400000 in
theorem float_dN (s : ByteArray) (w : World) (hs : s.size ≤ 131072) (x : ByteArray)  (x0 : ByteArray) (hx : Hid (str (trimSuffix s.data.toList [77]) = x0)) (hp : Hid (hasPrefix x0.data.toList [46] = true)) (ht : Hid (str (trimLeftS (str (trimPrefix x0.data.toList [46])).data.toList digs) = x)) (_h0 : 0 < x.size) (_he : x.toList.isEmpty = false) (_hl : ¬ x.toList = []) (_ha : ¬ (x[0].toNat : Int) = 101) (_hb : ¬ (x[0].toNat : Int) = 69) (_ha2 : ((x[0].toNat : Int) == 101) = false) (_hb2 : ((x[0].toNat : Int) == 69) = false) :
    Calls Tryz.prog 26 #[.string s] w fun e w' => e = .returned (.bool (false)) ∧ Below w.heap.size w w' := by
  go_enter Tryz.func26, Tryz.ntmps26
  go_wp2_with (first
    | (go_at_call 23; refine (trimSuffix_M s _ hs).mono ?_; rintro e w2 ⟨rfl, hw⟩; have hw2 := hw.symm; subst hw2; rw [hx.out])
    | (go_at_call 45; refine (cutPrefix_dot x0 _).mono ?_; rintro e w2 ⟨rfl, hw⟩; have hw2 := hw.symm; subst hw2; rw [hp.out])
    | (go_at_call 21; refine (trimLeft_digs _ _).mono ?_; rintro e w1 ⟨rfl, hw1⟩; rw [ht.out]))
  go_ret
  exact ⟨by first | rfl | (congr 1; congr 1) | simp, hw1⟩

set_option maxHeartbeats 400000 in
theorem float_deE (s : ByteArray) (w : World) (hs : s.size ≤ 131072) (x : ByteArray)  (x0 : ByteArray) (hx : Hid (str (trimSuffix s.data.toList [77]) = x0)) (hp : Hid (hasPrefix x0.data.toList [46] = true)) (ht : Hid (str (trimLeftS (str (trimPrefix x0.data.toList [46])).data.toList digs) = x)) (_h0 : 0 < x.size) (_he : x.toList.isEmpty = false) (_hl : ¬ x.toList = []) (_ha : (x[0].toNat : Int) = 101) (_hy : (x.extract 1 x.size).toList = []) :
    Calls Tryz.prog 26 #[.string s] w fun e w' => e = .returned (.bool (false)) ∧ Below w.heap.size w w' := by
  go_enter Tryz.func26, Tryz.ntmps26
  go_wp2_with (first
    | (go_at_call 23; refine (trimSuffix_M s _ hs).mono ?_; rintro e w2 ⟨rfl, hw⟩; have hw2 := hw.symm; subst hw2; rw [hx.out])
    | (go_at_call 45; refine (cutPrefix_dot x0 _).mono ?_; rintro e w2 ⟨rfl, hw⟩; have hw2 := hw.symm; subst hw2; rw [hp.out])
    | (go_at_call 21; refine (trimLeft_digs _ _).mono ?_; rintro e w1 ⟨rfl, hw1⟩; rw [ht.out]))
  go_ret
  exact ⟨by first | rfl | (congr 1; congr 1) | simp, hw1⟩

set_option maxHeartbeats 400000 in
theorem float_deN (s : ByteArray) (w : World) (hs : s.size ≤ 131072) (x : ByteArray) (hq : x.size ≤ 131072) (x0 : ByteArray) (hx : Hid (str (trimSuffix s.data.toList [77]) = x0)) (hp : Hid (hasPrefix x0.data.toList [46] = true)) (ht : Hid (str (trimLeftS (str (trimPrefix x0.data.toList [46])).data.toList digs) = x)) (T : ByteArray) (hT : Hid ((str (trimS (x.extract 1 x.size).data.toList digs)) = T)) (_h0 : 0 < x.size) (_he : x.toList.isEmpty = false) (_hl : ¬ x.toList = []) (_ha : (x[0].toNat : Int) = 101) (_k0 : 0 < x.size - 1) (_ke : (x.extract 1 x.size).toList.isEmpty = false) (_kl : ¬ (x.extract 1 x.size).toList = []) (_ka : ¬ (((x.extract 1 x.size)[0]'(by rw [ByteArray.size_extract]; omega)).toNat : Int) = 43) (_kb : ¬ (((x.extract 1 x.size)[0]'(by rw [ByteArray.size_extract]; omega)).toNat : Int) = 45) (_ka2 : ((((x.extract 1 x.size)[0]'(by rw [ByteArray.size_extract]; omega)).toNat : Int) == 43) = false) (_kb2 : ((((x.extract 1 x.size)[0]'(by rw [ByteArray.size_extract]; omega)).toNat : Int) == 45) = false) :
    Calls Tryz.prog 26 #[.string s] w fun e w' => e = .returned (.bool (T.toList.isEmpty)) ∧ Below w.heap.size w w' := by
  go_enter Tryz.func26, Tryz.ntmps26
  go_wp2_with (first
    | (go_at_call 23; refine (trimSuffix_M s _ hs).mono ?_; rintro e w2 ⟨rfl, hw⟩; have hw2 := hw.symm; subst hw2; rw [hx.out])
    | (go_at_call 45; refine (cutPrefix_dot x0 _).mono ?_; rintro e w2 ⟨rfl, hw⟩; have hw2 := hw.symm; subst hw2; rw [hp.out])
    | (go_at_call 21; refine (trimLeft_digs _ _).mono ?_; rintro e w1 ⟨rfl, hw1⟩; rw [ht.out])
    | (go_at_call 25; refine (trim_digs _ _ (by simp only [ByteArray.size_extract]; omega)).mono ?_; rintro e w3 ⟨rfl, hw3⟩; rw [hT.out]))
  go_ret
  exact ⟨by first | rfl | (congr 1; congr 1) | simp, hw1.trans (hw3.mono hw1.size)⟩

set_option maxHeartbeats 400000 in
theorem float_depE (s : ByteArray) (w : World) (hs : s.size ≤ 131072) (x : ByteArray)  (x0 : ByteArray) (hx : Hid (str (trimSuffix s.data.toList [77]) = x0)) (hp : Hid (hasPrefix x0.data.toList [46] = true)) (ht : Hid (str (trimLeftS (str (trimPrefix x0.data.toList [46])).data.toList digs) = x)) (_h0 : 0 < x.size) (_he : x.toList.isEmpty = false) (_hl : ¬ x.toList = []) (_ha : (x[0].toNat : Int) = 101) (_k0 : 0 < x.size - 1) (_ke : (x.extract 1 x.size).toList.isEmpty = false) (_kl : ¬ (x.extract 1 x.size).toList = []) (_ka : (((x.extract 1 x.size)[0]'(by rw [ByteArray.size_extract]; omega)).toNat : Int) = 43) (_hz : ((x.extract 1 x.size).extract 1 (x.size - 1)).toList = []) :
    Calls Tryz.prog 26 #[.string s] w fun e w' => e = .returned (.bool (false)) ∧ Below w.heap.size w w' := by
  go_enter Tryz.func26, Tryz.ntmps26
  go_wp2_with (first
    | (go_at_call 23; refine (trimSuffix_M s _ hs).mono ?_; rintro e w2 ⟨rfl, hw⟩; have hw2 := hw.symm; subst hw2; rw [hx.out])
    | (go_at_call 45; refine (cutPrefix_dot x0 _).mono ?_; rintro e w2 ⟨rfl, hw⟩; have hw2 := hw.symm; subst hw2; rw [hp.out])
    | (go_at_call 21; refine (trimLeft_digs _ _).mono ?_; rintro e w1 ⟨rfl, hw1⟩; rw [ht.out]))
  go_ret
  exact ⟨by first | rfl | (congr 1; congr 1) | simp, hw1⟩

set_option maxHeartbeats 400000 in
theorem float_depN (s : ByteArray) (w : World) (hs : s.size ≤ 131072) (x : ByteArray) (hq : x.size ≤ 131072) (x0 : ByteArray) (hx : Hid (str (trimSuffix s.data.toList [77]) = x0)) (hp : Hid (hasPrefix x0.data.toList [46] = true)) (ht : Hid (str (trimLeftS (str (trimPrefix x0.data.toList [46])).data.toList digs) = x)) (T : ByteArray) (hT : Hid ((str (trimS ((x.extract 1 x.size).extract 1 (x.size - 1)).data.toList digs)) = T)) (_h0 : 0 < x.size) (_he : x.toList.isEmpty = false) (_hl : ¬ x.toList = []) (_ha : (x[0].toNat : Int) = 101) (_k0 : 0 < x.size - 1) (_ke : (x.extract 1 x.size).toList.isEmpty = false) (_kl : ¬ (x.extract 1 x.size).toList = []) (_ka : (((x.extract 1 x.size)[0]'(by rw [ByteArray.size_extract]; omega)).toNat : Int) = 43) (_ze : ((x.extract 1 x.size).extract 1 (x.size - 1)).toList.isEmpty = false) (_zl : ¬ ((x.extract 1 x.size).extract 1 (x.size - 1)).toList = []) :
    Calls Tryz.prog 26 #[.string s] w fun e w' => e = .returned (.bool (T.toList.isEmpty)) ∧ Below w.heap.size w w' := by
  go_enter Tryz.func26, Tryz.ntmps26
  go_wp2_with (first
    | (go_at_call 23; refine (trimSuffix_M s _ hs).mono ?_; rintro e w2 ⟨rfl, hw⟩; have hw2 := hw.symm; subst hw2; rw [hx.out])
    | (go_at_call 45; refine (cutPrefix_dot x0 _).mono ?_; rintro e w2 ⟨rfl, hw⟩; have hw2 := hw.symm; subst hw2; rw [hp.out])
    | (go_at_call 21; refine (trimLeft_digs _ _).mono ?_; rintro e w1 ⟨rfl, hw1⟩; rw [ht.out])
    | (go_at_call 25; refine (trim_digs _ _ (by simp only [ByteArray.size_extract]; omega)).mono ?_; rintro e w3 ⟨rfl, hw3⟩; rw [hT.out]))
  go_ret
  exact ⟨by first | rfl | (congr 1; congr 1) | simp, hw1.trans (hw3.mono hw1.size)⟩

set_option maxHeartbeats 400000 in
theorem float_demE (s : ByteArray) (w : World) (hs : s.size ≤ 131072) (x : ByteArray)  (x0 : ByteArray) (hx : Hid (str (trimSuffix s.data.toList [77]) = x0)) (hp : Hid (hasPrefix x0.data.toList [46] = true)) (ht : Hid (str (trimLeftS (str (trimPrefix x0.data.toList [46])).data.toList digs) = x)) (_h0 : 0 < x.size) (_he : x.toList.isEmpty = false) (_hl : ¬ x.toList = []) (_ha : (x[0].toNat : Int) = 101) (_k0 : 0 < x.size - 1) (_ke : (x.extract 1 x.size).toList.isEmpty = false) (_kl : ¬ (x.extract 1 x.size).toList = []) (_ka : ¬ (((x.extract 1 x.size)[0]'(by rw [ByteArray.size_extract]; omega)).toNat : Int) = 43) (_kb : (((x.extract 1 x.size)[0]'(by rw [ByteArray.size_extract]; omega)).toNat : Int) = 45) (_hz : ((x.extract 1 x.size).extract 1 (x.size - 1)).toList = []) :
    Calls Tryz.prog 26 #[.string s] w fun e w' => e = .returned (.bool (false)) ∧ Below w.heap.size w w' := by
  go_enter Tryz.func26, Tryz.ntmps26
  go_wp2_with (first
    | (go_at_call 23; refine (trimSuffix_M s _ hs).mono ?_; rintro e w2 ⟨rfl, hw⟩; have hw2 := hw.symm; subst hw2; rw [hx.out])
    | (go_at_call 45; refine (cutPrefix_dot x0 _).mono ?_; rintro e w2 ⟨rfl, hw⟩; have hw2 := hw.symm; subst hw2; rw [hp.out])
    | (go_at_call 21; refine (trimLeft_digs _ _).mono ?_; rintro e w1 ⟨rfl, hw1⟩; rw [ht.out]))
  go_ret
  exact ⟨by first | rfl | (congr 1; congr 1) | simp, hw1⟩

set_option maxHeartbeats 400000 in
theorem float_demN (s : ByteArray) (w : World) (hs : s.size ≤ 131072) (x : ByteArray) (hq : x.size ≤ 131072) (x0 : ByteArray) (hx : Hid (str (trimSuffix s.data.toList [77]) = x0)) (hp : Hid (hasPrefix x0.data.toList [46] = true)) (ht : Hid (str (trimLeftS (str (trimPrefix x0.data.toList [46])).data.toList digs) = x)) (T : ByteArray) (hT : Hid ((str (trimS ((x.extract 1 x.size).extract 1 (x.size - 1)).data.toList digs)) = T)) (_h0 : 0 < x.size) (_he : x.toList.isEmpty = false) (_hl : ¬ x.toList = []) (_ha : (x[0].toNat : Int) = 101) (_k0 : 0 < x.size - 1) (_ke : (x.extract 1 x.size).toList.isEmpty = false) (_kl : ¬ (x.extract 1 x.size).toList = []) (_ka : ¬ (((x.extract 1 x.size)[0]'(by rw [ByteArray.size_extract]; omega)).toNat : Int) = 43) (_kb : (((x.extract 1 x.size)[0]'(by rw [ByteArray.size_extract]; omega)).toNat : Int) = 45) (_ze : ((x.extract 1 x.size).extract 1 (x.size - 1)).toList.isEmpty = false) (_zl : ¬ ((x.extract 1 x.size).extract 1 (x.size - 1)).toList = []) :
    Calls Tryz.prog 26 #[.string s] w fun e w' => e = .returned (.bool (T.toList.isEmpty)) ∧ Below w.heap.size w w' := by
  go_enter Tryz.func26, Tryz.ntmps26
  go_wp2_with (first
    | (go_at_call 23; refine (trimSuffix_M s _ hs).mono ?_; rintro e w2 ⟨rfl, hw⟩; have hw2 := hw.symm; subst hw2; rw [hx.out])
    | (go_at_call 45; refine (cutPrefix_dot x0 _).mono ?_; rintro e w2 ⟨rfl, hw⟩; have hw2 := hw.symm; subst hw2; rw [hp.out])
    | (go_at_call 21; refine (trimLeft_digs _ _).mono ?_; rintro e w1 ⟨rfl, hw1⟩; rw [ht.out])
    | (go_at_call 25; refine (trim_digs _ _ (by simp only [ByteArray.size_extract]; omega)).mono ?_; rintro e w3 ⟨rfl, hw3⟩; rw [hT.out]))
  go_ret
  exact ⟨by first | rfl | (congr 1; congr 1) | simp, hw1.trans (hw3.mono hw1.size)⟩

set_option maxHeartbeats 400000 in
theorem float_dfE (s : ByteArray) (w : World) (hs : s.size ≤ 131072) (x : ByteArray)  (x0 : ByteArray) (hx : Hid (str (trimSuffix s.data.toList [77]) = x0)) (hp : Hid (hasPrefix x0.data.toList [46] = true)) (ht : Hid (str (trimLeftS (str (trimPrefix x0.data.toList [46])).data.toList digs) = x)) (_h0 : 0 < x.size) (_he : x.toList.isEmpty = false) (_hl : ¬ x.toList = []) (_ha : ¬ (x[0].toNat : Int) = 101) (_hb : (x[0].toNat : Int) = 69) (_hy : (x.extract 1 x.size).toList = []) :
    Calls Tryz.prog 26 #[.string s] w fun e w' => e = .returned (.bool (false)) ∧ Below w.heap.size w w' := by
  go_enter Tryz.func26, Tryz.ntmps26
  go_wp2_with (first
    | (go_at_call 23; refine (trimSuffix_M s _ hs).mono ?_; rintro e w2 ⟨rfl, hw⟩; have hw2 := hw.symm; subst hw2; rw [hx.out])
    | (go_at_call 45; refine (cutPrefix_dot x0 _).mono ?_; rintro e w2 ⟨rfl, hw⟩; have hw2 := hw.symm; subst hw2; rw [hp.out])
    | (go_at_call 21; refine (trimLeft_digs _ _).mono ?_; rintro e w1 ⟨rfl, hw1⟩; rw [ht.out]))
  go_ret
  exact ⟨by first | rfl | (congr 1; congr 1) | simp, hw1⟩

set_option maxHeartbeats 400000 in
theorem float_dfN (s : ByteArray) (w : World) (hs : s.size ≤ 131072) (x : ByteArray) (hq : x.size ≤ 131072) (x0 : ByteArray) (hx : Hid (str (trimSuffix s.data.toList [77]) = x0)) (hp : Hid (hasPrefix x0.data.toList [46] = true)) (ht : Hid (str (trimLeftS (str (trimPrefix x0.data.toList [46])).data.toList digs) = x)) (T : ByteArray) (hT : Hid ((str (trimS (x.extract 1 x.size).data.toList digs)) = T)) (_h0 : 0 < x.size) (_he : x.toList.isEmpty = false) (_hl : ¬ x.toList = []) (_ha : ¬ (x[0].toNat : Int) = 101) (_hb : (x[0].toNat : Int) = 69) (_k0 : 0 < x.size - 1) (_ke : (x.extract 1 x.size).toList.isEmpty = false) (_kl : ¬ (x.extract 1 x.size).toList = []) (_ka : ¬ (((x.extract 1 x.size)[0]'(by rw [ByteArray.size_extract]; omega)).toNat : Int) = 43) (_kb : ¬ (((x.extract 1 x.size)[0]'(by rw [ByteArray.size_extract]; omega)).toNat : Int) = 45) (_ka2 : ((((x.extract 1 x.size)[0]'(by rw [ByteArray.size_extract]; omega)).toNat : Int) == 43) = false) (_kb2 : ((((x.extract 1 x.size)[0]'(by rw [ByteArray.size_extract]; omega)).toNat : Int) == 45) = false) :
    Calls Tryz.prog 26 #[.string s] w fun e w' => e = .returned (.bool (T.toList.isEmpty)) ∧ Below w.heap.size w w' := by
  go_enter Tryz.func26, Tryz.ntmps26
  go_wp2_with (first
    | (go_at_call 23; refine (trimSuffix_M s _ hs).mono ?_; rintro e w2 ⟨rfl, hw⟩; have hw2 := hw.symm; subst hw2; rw [hx.out])
    | (go_at_call 45; refine (cutPrefix_dot x0 _).mono ?_; rintro e w2 ⟨rfl, hw⟩; have hw2 := hw.symm; subst hw2; rw [hp.out])
    | (go_at_call 21; refine (trimLeft_digs _ _).mono ?_; rintro e w1 ⟨rfl, hw1⟩; rw [ht.out])
    | (go_at_call 25; refine (trim_digs _ _ (by simp only [ByteArray.size_extract]; omega)).mono ?_; rintro e w3 ⟨rfl, hw3⟩; rw [hT.out]))
  go_ret
  exact ⟨by first | rfl | (congr 1; congr 1) | simp, hw1.trans (hw3.mono hw1.size)⟩

set_option maxHeartbeats 400000 in
theorem float_dfpE (s : ByteArray) (w : World) (hs : s.size ≤ 131072) (x : ByteArray)  (x0 : ByteArray) (hx : Hid (str (trimSuffix s.data.toList [77]) = x0)) (hp : Hid (hasPrefix x0.data.toList [46] = true)) (ht : Hid (str (trimLeftS (str (trimPrefix x0.data.toList [46])).data.toList digs) = x)) (_h0 : 0 < x.size) (_he : x.toList.isEmpty = false) (_hl : ¬ x.toList = []) (_ha : ¬ (x[0].toNat : Int) = 101) (_hb : (x[0].toNat : Int) = 69) (_k0 : 0 < x.size - 1) (_ke : (x.extract 1 x.size).toList.isEmpty = false) (_kl : ¬ (x.extract 1 x.size).toList = []) (_ka : (((x.extract 1 x.size)[0]'(by rw [ByteArray.size_extract]; omega)).toNat : Int) = 43) (_hz : ((x.extract 1 x.size).extract 1 (x.size - 1)).toList = []) :
    Calls Tryz.prog 26 #[.string s] w fun e w' => e = .returned (.bool (false)) ∧ Below w.heap.size w w' := by
  go_enter Tryz.func26, Tryz.ntmps26
  go_wp2_with (first
    | (go_at_call 23; refine (trimSuffix_M s _ hs).mono ?_; rintro e w2 ⟨rfl, hw⟩; have hw2 := hw.symm; subst hw2; rw [hx.out])
    | (go_at_call 45; refine (cutPrefix_dot x0 _).mono ?_; rintro e w2 ⟨rfl, hw⟩; have hw2 := hw.symm; subst hw2; rw [hp.out])
    | (go_at_call 21; refine (trimLeft_digs _ _).mono ?_; rintro e w1 ⟨rfl, hw1⟩; rw [ht.out]))
  go_ret
  exact ⟨by first | rfl | (congr 1; congr 1) | simp, hw1⟩

set_option maxHeartbeats 400000 in
theorem float_dfpN (s : ByteArray) (w : World) (hs : s.size ≤ 131072) (x : ByteArray) (hq : x.size ≤ 131072) (x0 : ByteArray) (hx : Hid (str (trimSuffix s.data.toList [77]) = x0)) (hp : Hid (hasPrefix x0.data.toList [46] = true)) (ht : Hid (str (trimLeftS (str (trimPrefix x0.data.toList [46])).data.toList digs) = x)) (T : ByteArray) (hT : Hid ((str (trimS ((x.extract 1 x.size).extract 1 (x.size - 1)).data.toList digs)) = T)) (_h0 : 0 < x.size) (_he : x.toList.isEmpty = false) (_hl : ¬ x.toList = []) (_ha : ¬ (x[0].toNat : Int) = 101) (_hb : (x[0].toNat : Int) = 69) (_k0 : 0 < x.size - 1) (_ke : (x.extract 1 x.size).toList.isEmpty = false) (_kl : ¬ (x.extract 1 x.size).toList = []) (_ka : (((x.extract 1 x.size)[0]'(by rw [ByteArray.size_extract]; omega)).toNat : Int) = 43) (_ze : ((x.extract 1 x.size).extract 1 (x.size - 1)).toList.isEmpty = false) (_zl : ¬ ((x.extract 1 x.size).extract 1 (x.size - 1)).toList = []) :
    Calls Tryz.prog 26 #[.string s] w fun e w' => e = .returned (.bool (T.toList.isEmpty)) ∧ Below w.heap.size w w' := by
  go_enter Tryz.func26, Tryz.ntmps26
  go_wp2_with (first
    | (go_at_call 23; refine (trimSuffix_M s _ hs).mono ?_; rintro e w2 ⟨rfl, hw⟩; have hw2 := hw.symm; subst hw2; rw [hx.out])
    | (go_at_call 45; refine (cutPrefix_dot x0 _).mono ?_; rintro e w2 ⟨rfl, hw⟩; have hw2 := hw.symm; subst hw2; rw [hp.out])
    | (go_at_call 21; refine (trimLeft_digs _ _).mono ?_; rintro e w1 ⟨rfl, hw1⟩; rw [ht.out])
    | (go_at_call 25; refine (trim_digs _ _ (by simp only [ByteArray.size_extract]; omega)).mono ?_; rintro e w3 ⟨rfl, hw3⟩; rw [hT.out]))
  go_ret
  exact ⟨by first | rfl | (congr 1; congr 1) | simp, hw1.trans (hw3.mono hw1.size)⟩

set_option maxHeartbeats 400000 in
theorem float_dfmE (s : ByteArray) (w : World) (hs : s.size ≤ 131072) (x : ByteArray)  (x0 : ByteArray) (hx : Hid (str (trimSuffix s.data.toList [77]) = x0)) (hp : Hid (hasPrefix x0.data.toList [46] = true)) (ht : Hid (str (trimLeftS (str (trimPrefix x0.data.toList [46])).data.toList digs) = x)) (_h0 : 0 < x.size) (_he : x.toList.isEmpty = false) (_hl : ¬ x.toList = []) (_ha : ¬ (x[0].toNat : Int) = 101) (_hb : (x[0].toNat : Int) = 69) (_k0 : 0 < x.size - 1) (_ke : (x.extract 1 x.size).toList.isEmpty = false) (_kl : ¬ (x.extract 1 x.size).toList = []) (_ka : ¬ (((x.extract 1 x.size)[0]'(by rw [ByteArray.size_extract]; omega)).toNat : Int) = 43) (_kb : (((x.extract 1 x.size)[0]'(by rw [ByteArray.size_extract]; omega)).toNat : Int) = 45) (_hz : ((x.extract 1 x.size).extract 1 (x.size - 1)).toList = []) :
    Calls Tryz.prog 26 #[.string s] w fun e w' => e = .returned (.bool (false)) ∧ Below w.heap.size w w' := by
  go_enter Tryz.func26, Tryz.ntmps26
  go_wp2_with (first
    | (go_at_call 23; refine (trimSuffix_M s _ hs).mono ?_; rintro e w2 ⟨rfl, hw⟩; have hw2 := hw.symm; subst hw2; rw [hx.out])
    | (go_at_call 45; refine (cutPrefix_dot x0 _).mono ?_; rintro e w2 ⟨rfl, hw⟩; have hw2 := hw.symm; subst hw2; rw [hp.out])
    | (go_at_call 21; refine (trimLeft_digs _ _).mono ?_; rintro e w1 ⟨rfl, hw1⟩; rw [ht.out]))
  go_ret
  exact ⟨by first | rfl | (congr 1; congr 1) | simp, hw1⟩

set_option maxHeartbeats 400000 in
theorem float_dfmN (s : ByteArray) (w : World) (hs : s.size ≤ 131072) (x : ByteArray) (hq : x.size ≤ 131072) (x0 : ByteArray) (hx : Hid (str (trimSuffix s.data.toList [77]) = x0)) (hp : Hid (hasPrefix x0.data.toList [46] = true)) (ht : Hid (str (trimLeftS (str (trimPrefix x0.data.toList [46])).data.toList digs) = x)) (T : ByteArray) (hT : Hid ((str (trimS ((x.extract 1 x.size).extract 1 (x.size - 1)).data.toList digs)) = T)) (_h0 : 0 < x.size) (_he : x.toList.isEmpty = false) (_hl : ¬ x.toList = []) (_ha : ¬ (x[0].toNat : Int) = 101) (_hb : (x[0].toNat : Int) = 69) (_k0 : 0 < x.size - 1) (_ke : (x.extract 1 x.size).toList.isEmpty = false) (_kl : ¬ (x.extract 1 x.size).toList = []) (_ka : ¬ (((x.extract 1 x.size)[0]'(by rw [ByteArray.size_extract]; omega)).toNat : Int) = 43) (_kb : (((x.extract 1 x.size)[0]'(by rw [ByteArray.size_extract]; omega)).toNat : Int) = 45) (_ze : ((x.extract 1 x.size).extract 1 (x.size - 1)).toList.isEmpty = false) (_zl : ¬ ((x.extract 1 x.size).extract 1 (x.size - 1)).toList = []) :
    Calls Tryz.prog 26 #[.string s] w fun e w' => e = .returned (.bool (T.toList.isEmpty)) ∧ Below w.heap.size w w' := by
  go_enter Tryz.func26, Tryz.ntmps26
  go_wp2_with (first
    | (go_at_call 23; refine (trimSuffix_M s _ hs).mono ?_; rintro e w2 ⟨rfl, hw⟩; have hw2 := hw.symm; subst hw2; rw [hx.out])
    | (go_at_call 45; refine (cutPrefix_dot x0 _).mono ?_; rintro e w2 ⟨rfl, hw⟩; have hw2 := hw.symm; subst hw2; rw [hp.out])
    | (go_at_call 21; refine (trimLeft_digs _ _).mono ?_; rintro e w1 ⟨rfl, hw1⟩; rw [ht.out])
    | (go_at_call 25; refine (trim_digs _ _ (by simp only [ByteArray.size_extract]; omega)).mono ?_; rintro e w3 ⟨rfl, hw3⟩; rw [hT.out]))
  go_ret
  exact ⟨by first | rfl | (congr 1; congr 1) | simp, hw1.trans (hw3.mono hw1.size)⟩


/-! ### together -/
theorem exp_empty (x : ByteArray) (h : x.toList = []) : true = expL x.data.toList := by
  rw [list_data] at h
  rw [h]; rfl
theorem head_some (x : ByteArray) (h0 : 0 < x.size) : x.data.toList = x[0] :: x.data.toList.tail := by
  cases h : x.data.toList with
  | nil => have := data_length x; rw [h] at this; simp at this; omega
  | cons c r =>
    have h1 := get_data x 0 h0
    rw [h] at h1
    simp at h1
    rw [← h1]
    rfl
theorem byte_ne {a b : UInt8} (h : ¬ (a.toNat : Int) = b.toNat) : ¬ (some a = some b) := fun e => h (by rw [Option.some.inj e])
theorem byte_eq {a b : UInt8} (h : (a.toNat : Int) = b.toNat) : a = b := UInt8.toNat_inj.mp (by omega)
theorem exp_none (x : ByteArray) (h0 : 0 < x.size) (ha : ¬ (x[0].toNat : Int) = 101) (hb : ¬ (x[0].toNat : Int) = 69) : false = expL x.data.toList := by
  rw [head_some x h0]
  unfold expL
  rw [if_neg (by rw [List.head?_cons, not_or]; exact ⟨byte_ne (b := 101) ha, byte_ne (b := 69) hb⟩)]
  rfl
theorem exp_go (x : ByteArray) (h0 : 0 < x.size) (h : (x[0].toNat : Int) = 101 ∨ (x[0].toNat : Int) = 69) (y : List UInt8) (hy : y = if (x.extract 1 x.size).data.toList.head? = some 43 ∨ (x.extract 1 x.size).data.toList.head? = some 45 then (x.extract 1 x.size).data.toList.tail else (x.extract 1 x.size).data.toList) :
    expL x.data.toList = (decide (y ≠ []) && decide (trimS y digs = [])) := by
  rw [tail_data] at hy
  unfold expL
  rw [if_pos (by rw [head_some x h0, List.head?_cons]; rcases h with h | h; exact .inl (congrArg some (byte_eq h)); exact .inr (congrArg some (byte_eq h))), hy]
theorem trim_nil : trimS [] digs = [] := by decide
theorem is_empty (T : ByteArray) (l : List UInt8) (hT : str (trimS l digs) = T) (hl : l ≠ []) : T.toList.isEmpty = (decide (l ≠ []) && decide (trimS l digs = [])) := by
  rw [← hT, empty_str, decide_eq_true hl, Bool.true_and]
theorem nonempty_of {x : ByteArray} (h : ¬ x.toList = []) : x.toList.isEmpty = false := by
  cases h2 : x.toList with
  | nil => exact absurd h2 h
  | cons c r => rfl
theorem size_of {x : ByteArray} (h : ¬ x.toList = []) : 0 < x.size := by
  rw [list_data] at h
  rcases Nat.eq_zero_or_pos x.size with h0 | h0
  · exact absurd (List.length_eq_zero_iff.mp (by rw [data_length, h0])) h
  · exact h0
theorem beq_no {a b : Int} (h : ¬ a = b) : (a == b) = false := by simpa using h
/-- What the walks' leaves need, in one word: the exponent's shape. -/
theorem exp_cases (x : ByteArray) (P : Bool → Prop)
    (cE : x.toList = [] → P true)
    (cN : (h0 : 0 < x.size) → x.toList.isEmpty = false → ¬ x.toList = [] → ¬ (x[0].toNat : Int) = 101 → ¬ (x[0].toNat : Int) = 69 → P false)
    (cG : (h0 : 0 < x.size) → x.toList.isEmpty = false → ¬ x.toList = [] → ((x[0].toNat : Int) = 101 ∨ (x[0].toNat : Int) = 69) → P (expL x.data.toList)) : P (expL x.data.toList) := by
  by_cases h : x.toList = []
  · rw [← exp_empty x h]; exact cE h
  · have h0 := size_of h
    have he := nonempty_of h
    by_cases ha : (x[0].toNat : Int) = 101
    · exact cG h0 he h (.inl ha)
    · by_cases hb : (x[0].toNat : Int) = 69
      · exact cG h0 he h (.inr hb)
      · rw [← exp_none x h0 ha hb]; exact cN h0 he h ha hb
theorem float_n_any (s : ByteArray) (w : World) (hs : s.size ≤ 131072) (x : ByteArray) (hq : x.size ≤ 131072) (hx : Hid (str (trimSuffix s.data.toList [77]) = x)) (hp : Hid (hasPrefix x.data.toList [46] = false)) :
    Calls Tryz.prog 26 #[.string s] w fun e w' => e = .returned (.bool (expL x.data.toList)) ∧ Below w.heap.size w w' := by
  refine exp_cases x (fun b => Calls Tryz.prog 26 #[.string s] w fun e w' => e = .returned (.bool b) ∧ Below w.heap.size w w') ?_ ?_ ?_
  · intro h; exact float_nE s w hs x hx hp h
  · intro h0 he hl ha hb; exact float_nN s w hs x hx hp h0 he hl ha hb (beq_no ha) (beq_no hb)
  · intro h0 he hl hab
    by_cases hy : (x.extract 1 x.size).toList = []
    · have e1 : expL x.data.toList = false := by
        rw [exp_go x h0 hab [] (by rw [← list_data, hy]; rfl)]; rfl
      rw [e1]
      rcases hab with ha | hb
      · exact float_neE s w hs x hx hp h0 he hl ha hy
      · exact float_nfE s w hs x hx hp h0 he hl (by omega) hb hy
    · have k0 := size_of hy
      have ke := nonempty_of hy
      have k0' : 0 < x.size - 1 := by rw [ByteArray.size_extract] at k0; omega
      have hd := head_some _ k0
      have hz : ((x.extract 1 x.size).extract 1 (x.size - 1)).data.toList = (x.extract 1 x.size).data.toList.tail := by
        have := tail_data (x.extract 1 x.size)
        rw [show (x.extract 1 x.size).size = x.size - 1 by rw [ByteArray.size_extract]; omega] at this
        exact this
      by_cases ka : (((x.extract 1 x.size)[0]'k0).toNat : Int) = 43
      · have hE := exp_go x h0 hab ((x.extract 1 x.size).extract 1 (x.size - 1)).data.toList (by
          rw [if_pos (.inl (by rw [hd, List.head?_cons]; exact congrArg some (byte_eq ka))), hz])
        by_cases zl : ((x.extract 1 x.size).extract 1 (x.size - 1)).toList = []
        · rw [(list_data _).symm.trans zl] at hE
          rw [hE]
          rcases hab with ha | hb
          · exact float_nepE s w hs x hx hp h0 he hl ha k0' ke hy ka zl
          · exact float_nfpE s w hs x hx hp h0 he hl (by omega) hb k0' ke hy ka zl
        · rw [hE, ← is_empty _ _ rfl (by rw [← list_data]; exact zl)]
          rcases hab with ha | hb
          · exact float_nepN s w hs x hq hx hp _ rfl h0 he hl ha k0' ke hy ka (nonempty_of zl) zl
          · exact float_nfpN s w hs x hq hx hp _ rfl h0 he hl (by omega) hb k0' ke hy ka (nonempty_of zl) zl
      · by_cases kb : (((x.extract 1 x.size)[0]'k0).toNat : Int) = 45
        · have hE := exp_go x h0 hab ((x.extract 1 x.size).extract 1 (x.size - 1)).data.toList (by
            rw [if_pos (.inr (by rw [hd, List.head?_cons]; exact congrArg some (byte_eq kb))), hz])
          by_cases zl : ((x.extract 1 x.size).extract 1 (x.size - 1)).toList = []
          · rw [(list_data _).symm.trans zl] at hE
            rw [hE]
            rcases hab with ha | hb
            · exact float_nemE s w hs x hx hp h0 he hl ha k0' ke hy ka kb zl
            · exact float_nfmE s w hs x hx hp h0 he hl (by omega) hb k0' ke hy ka kb zl
          · rw [hE, ← is_empty _ _ rfl (by rw [← list_data]; exact zl)]
            rcases hab with ha | hb
            · exact float_nemN s w hs x hq hx hp _ rfl h0 he hl ha k0' ke hy ka kb (nonempty_of zl) zl
            · exact float_nfmN s w hs x hq hx hp _ rfl h0 he hl (by omega) hb k0' ke hy ka kb (nonempty_of zl) zl
        · have hE := exp_go x h0 hab (x.extract 1 x.size).data.toList (by
            rw [if_neg (by rw [hd, List.head?_cons, not_or]; exact ⟨byte_ne (b := 43) ka, byte_ne (b := 45) kb⟩)])
          rw [hE, ← is_empty _ _ rfl (by rw [← list_data]; exact hy)]
          rcases hab with ha | hb
          · exact float_neN s w hs x hq hx hp _ rfl h0 he hl ha k0' ke hy ka kb (beq_no ka) (beq_no kb)
          · exact float_nfN s w hs x hq hx hp _ rfl h0 he hl (by omega) hb k0' ke hy ka kb (beq_no ka) (beq_no kb)
theorem float_d_any (s : ByteArray) (w : World) (hs : s.size ≤ 131072) (x : ByteArray) (hq : x.size ≤ 131072) (x0 : ByteArray) (hx : Hid (str (trimSuffix s.data.toList [77]) = x0)) (hp : Hid (hasPrefix x0.data.toList [46] = true)) (ht : Hid (str (trimLeftS (str (trimPrefix x0.data.toList [46])).data.toList digs) = x)) :
    Calls Tryz.prog 26 #[.string s] w fun e w' => e = .returned (.bool (expL x.data.toList)) ∧ Below w.heap.size w w' := by
  refine exp_cases x (fun b => Calls Tryz.prog 26 #[.string s] w fun e w' => e = .returned (.bool b) ∧ Below w.heap.size w w') ?_ ?_ ?_
  · intro h; exact float_dE s w hs x x0 hx hp ht h
  · intro h0 he hl ha hb; exact float_dN s w hs x x0 hx hp ht h0 he hl ha hb (beq_no ha) (beq_no hb)
  · intro h0 he hl hab
    by_cases hy : (x.extract 1 x.size).toList = []
    · have e1 : expL x.data.toList = false := by
        rw [exp_go x h0 hab [] (by rw [← list_data, hy]; rfl)]; rfl
      rw [e1]
      rcases hab with ha | hb
      · exact float_deE s w hs x x0 hx hp ht h0 he hl ha hy
      · exact float_dfE s w hs x x0 hx hp ht h0 he hl (by omega) hb hy
    · have k0 := size_of hy
      have ke := nonempty_of hy
      have k0' : 0 < x.size - 1 := by rw [ByteArray.size_extract] at k0; omega
      have hd := head_some _ k0
      have hz : ((x.extract 1 x.size).extract 1 (x.size - 1)).data.toList = (x.extract 1 x.size).data.toList.tail := by
        have := tail_data (x.extract 1 x.size)
        rw [show (x.extract 1 x.size).size = x.size - 1 by rw [ByteArray.size_extract]; omega] at this
        exact this
      by_cases ka : (((x.extract 1 x.size)[0]'k0).toNat : Int) = 43
      · have hE := exp_go x h0 hab ((x.extract 1 x.size).extract 1 (x.size - 1)).data.toList (by
          rw [if_pos (.inl (by rw [hd, List.head?_cons]; exact congrArg some (byte_eq ka))), hz])
        by_cases zl : ((x.extract 1 x.size).extract 1 (x.size - 1)).toList = []
        · rw [(list_data _).symm.trans zl] at hE
          rw [hE]
          rcases hab with ha | hb
          · exact float_depE s w hs x x0 hx hp ht h0 he hl ha k0' ke hy ka zl
          · exact float_dfpE s w hs x x0 hx hp ht h0 he hl (by omega) hb k0' ke hy ka zl
        · rw [hE, ← is_empty _ _ rfl (by rw [← list_data]; exact zl)]
          rcases hab with ha | hb
          · exact float_depN s w hs x hq x0 hx hp ht _ rfl h0 he hl ha k0' ke hy ka (nonempty_of zl) zl
          · exact float_dfpN s w hs x hq x0 hx hp ht _ rfl h0 he hl (by omega) hb k0' ke hy ka (nonempty_of zl) zl
      · by_cases kb : (((x.extract 1 x.size)[0]'k0).toNat : Int) = 45
        · have hE := exp_go x h0 hab ((x.extract 1 x.size).extract 1 (x.size - 1)).data.toList (by
            rw [if_pos (.inr (by rw [hd, List.head?_cons]; exact congrArg some (byte_eq kb))), hz])
          by_cases zl : ((x.extract 1 x.size).extract 1 (x.size - 1)).toList = []
          · rw [(list_data _).symm.trans zl] at hE
            rw [hE]
            rcases hab with ha | hb
            · exact float_demE s w hs x x0 hx hp ht h0 he hl ha k0' ke hy ka kb zl
            · exact float_dfmE s w hs x x0 hx hp ht h0 he hl (by omega) hb k0' ke hy ka kb zl
          · rw [hE, ← is_empty _ _ rfl (by rw [← list_data]; exact zl)]
            rcases hab with ha | hb
            · exact float_demN s w hs x hq x0 hx hp ht _ rfl h0 he hl ha k0' ke hy ka kb (nonempty_of zl) zl
            · exact float_dfmN s w hs x hq x0 hx hp ht _ rfl h0 he hl (by omega) hb k0' ke hy ka kb (nonempty_of zl) zl
        · have hE := exp_go x h0 hab (x.extract 1 x.size).data.toList (by
            rw [if_neg (by rw [hd, List.head?_cons, not_or]; exact ⟨byte_ne (b := 43) ka, byte_ne (b := 45) kb⟩)])
          rw [hE, ← is_empty _ _ rfl (by rw [← list_data]; exact hy)]
          rcases hab with ha | hb
          · exact float_deN s w hs x hq x0 hx hp ht _ rfl h0 he hl ha k0' ke hy ka kb (beq_no ka) (beq_no kb)
          · exact float_dfN s w hs x hq x0 hx hp ht _ rfl h0 he hl (by omega) hb k0' ke hy ka kb (beq_no ka) (beq_no kb)

theorem trimSuffix_len (l k : List UInt8) : (trimSuffix l k).length ≤ l.length := by
  unfold trimSuffix
  split
  · rw [List.length_take]; omega
  · omega
theorem prefix_cut {l : List UInt8} (h : hasPrefix l [46] = true) : trimPrefix l [46] = l.drop 1 := by
  unfold trimPrefix
  rw [if_pos h]; rfl
theorem trimLeft_len (l : List UInt8) : (trimLeftS l digs).length ≤ l.length := by
  unfold trimLeftS
  exact (List.dropWhile_sublist _).length_le
/-- isFloatTail. -/
theorem float_any (s : ByteArray) (w : World) (hs : s.size ≤ 131072) :
    Calls Tryz.prog 26 #[.string s] w fun e w' => e = .returned (.bool (floatL s.data.toList)) ∧ Below w.heap.size w w' := by
  have hz : (str (trimSuffix s.data.toList [77])).size ≤ 131072 := by
    rw [str_size]; have := trimSuffix_len s.data.toList [77]; rw [data_length] at this; omega
  by_cases hp : hasPrefix (trimSuffix s.data.toList [77]) [46] = true
  · have e1 : floatL s.data.toList = expL (str (trimLeftS (str (trimPrefix (str (trimSuffix s.data.toList [77])).data.toList [46])).data.toList digs)).data.toList := by
      rw [str_data, str_data, str_data, prefix_cut hp]
      unfold floatL
      dsimp only
      rw [if_pos hp]
    rw [e1]
    exact float_d_any s w hs _ (by
      rw [str_size, str_data, str_data, prefix_cut hp]
      have h1 := trimLeft_len ((trimSuffix s.data.toList [77]).drop 1)
      rw [List.length_drop] at h1
      rw [str_size] at hz
      omega) _ rfl hp rfl
  · have e1 : floatL s.data.toList = expL (str (trimSuffix s.data.toList [77])).data.toList := by
      rw [str_data]
      unfold floatL
      dsimp only
      rw [if_neg hp]
    rw [e1]
    exact float_n_any s w hs _ hz rfl (Bool.eq_false_iff.mpr hp)

end Go.Proofs.Qxb6613685aGreatFmt
