/-
  The walks of write, String, ZZednString at the forms that atom hands back.
-/
import Derived.Test.Qxb6613685aGreatFmtNumS
import Derived.Lib.AppendIntMem
import Derived.Lib.ItoaLen
namespace Go.Proofs.Qxb6613685aGreatFmt
open Go.RowKit
open Go.Lib hiding intOf

def freshObj : Obj := .cells #[.pointer none, .slice none 0 0] 53
theorem fresh_at (b : Nat) (w : World) (h : w.heap[b]? = some freshObj) : IsBuilder 53 5 b b [] w :=
  Or.inl ⟨Nat.le_refl _, .slice none 0 0, h, World.ownsRow_nil _ _ _ _, by simp [Value.ownBlock]⟩
theorem obj_lt {b : Nat} {w : World} {o : Obj} (h : w.heap[b]? = some o) : b < w.heap.size := by
  rcases Nat.lt_or_ge b w.heap.size with h1 | h1
  · exact h1
  · rw [Array.getElem?_eq_none h1] at h; cases h
theorem writeS (b : Nat) (s : ByteArray) (w : World) (h : w.heap[b]? = some freshObj) (hs : s.size ≤ 131073) :
    Calls Tryz.prog 27 #[.pointer (some ⟨b, 0, none⟩), .string s] w fun e w' => e = .returned (.tuple #[.int .i64 s.size, .nilIface]) ∧ BuilderAt 53 5 b b (.pointer (some ⟨b, 0, none⟩)) (byteCells s.data.toList) w' ∧ Below b w w' :=
  (Any.Builder_WriteString Tryz.lays166 Tryz.Builder_Extra_166 b b [] s w (fresh_at b w h) (by simp; omega) (Nat.le_of_lt (obj_lt h))).mono fun e w' h => h
def powName : String := "internal" ++ String.singleton (Char.ofNat 47) ++ "strconv.uint64pow10"
theorem tab_as {w : World} {n : String} (e : powName = n) (h : TabIs Tryz.prog w powName .u64 pow10Tab) : TabIs Tryz.prog w n .u64 pow10Tab := e ▸ h
theorem tab_from {w : World} {n : String} (e : n = powName) (h : TabIs Tryz.prog w n .u64 pow10Tab) : TabIs Tryz.prog w powName .u64 pow10Tab := e ▸ h
theorem formatInt (n : Int) (w : World) (h0 : -9223372036854775808 ≤ n) (h1 : n ≤ 9223372036854775807) (ht : TabIs Tryz.prog w powName .u64 pow10Tab) :
    Calls Tryz.prog 28 #[.int .i64 n, .int .i64 10] w fun e w' => e = .returned (.string (str (itoa n))) ∧ Below w.heap.size w w' :=
  (Any.strconv_FormatInt_10 Tryz.laysM173 n h0 h1 w (tab_as (by kernel_rfl) ht)).mono fun e w' h => by
    obtain ⟨h1, k, os, h2⟩ := h
    refine ⟨h1, ?_⟩
    rw [h2]
    exact below_grow _ _ (Nat.le_refl _) k os
theorem kept_alloc {b : Nat} {w : World} {o p : Obj} (h : w.heap[b]? = some o) : (w.alloc p).heap[b]? = some o := by
  rw [Below.heap_alloc _ _ _ (obj_lt h)]; exact h
theorem global2 : Tryz.prog.globalNamed powName = some 2 := by kernel_rfl
theorem tab_kept {w W : World} (hp : 2 < w.heap.size) (h : TabIs Tryz.prog w powName .u64 pow10Tab) (hb : Below w.heap.size w W) : TabIs Tryz.prog W powName .u64 pow10Tab :=
  var?_below hb global2 hp h
theorem itoa_size (n : Int) (h0 : -9223372036854775808 ≤ n) (h1 : n ≤ 9223372036854775807) : (str (itoa n)).size ≤ 131073 := by
  rw [str_size]
  have := itoa_length_le n h0 h1
  omega
theorem add_one (c : UInt8) (t : ByteArray) : (⟨#[c]⟩ ++ t : ByteArray).data.toList = c :: t.data.toList := by
  simp [ByteArray.data_append]

set_option maxHeartbeats 1000000 in
theorem write_nil (b : Nat) (line : Int) (t : ByteArray)  (w : World) (h : w.heap[b]? = some freshObj) (_hs : t.size ≤ 131072) :
    Calls Tryz.prog 17 #[.agg #[.int .u8 0, .int .i64 line, .string t, .int .i64 0, .bool false, .slice none 0 0], .pointer (some ⟨b, 0, none⟩)] w fun e w' => e = .returned (.tuple #[]) ∧ BuilderAt 53 5 b b (.pointer (some ⟨b, 0, none⟩)) (byteCells ([110, 105, 108])) w' ∧ Below b w w' := by
  have HF : Hid ((w.alloc (.cells #[.int .u8 0, .int .i64 line, .string t, .int .i64 0, .bool false, .slice none 0 0] 43)).heap[b]? = some freshObj) := hideP (kept_alloc h)
  have HB : Hid (Below b w (w.alloc (.cells #[.int .u8 0, .int .i64 line, .string t, .int .i64 0, .bool false, .slice none 0 0] 43))) := hideP ((Below.refl _ _).alloc (Nat.le_of_lt (obj_lt h)) _)

  clear h
  go_enter Tryz.func17, Tryz.ntmps17
  go_wp2_with (go_at_call 27; refine (writeS b _ _ HF.out (by decide)).mono ?_; rintro e w2 ⟨rfl, hw⟩; have HR : Hid _ := hideP hw; clear hw)
  go_end0
  exact ⟨rfl, HR.out.1, HB.out.trans HR.out.2⟩

set_option maxHeartbeats 1000000 in
theorem write_one (b : Nat) (line : Int) (t : ByteArray)  (w : World) (h : w.heap[b]? = some freshObj) (_hs : t.size ≤ 131072) :
    Calls Tryz.prog 17 #[.agg #[.int .u8 1, .int .i64 line, .string t, .int .i64 0, .bool false, .slice none 0 0], .pointer (some ⟨b, 0, none⟩)] w fun e w' => e = .returned (.tuple #[]) ∧ BuilderAt 53 5 b b (.pointer (some ⟨b, 0, none⟩)) (byteCells (t.data.toList)) w' ∧ Below b w w' := by
  have HF : Hid ((w.alloc (.cells #[.int .u8 1, .int .i64 line, .string t, .int .i64 0, .bool false, .slice none 0 0] 43)).heap[b]? = some freshObj) := hideP (kept_alloc h)
  have HB : Hid (Below b w (w.alloc (.cells #[.int .u8 1, .int .i64 line, .string t, .int .i64 0, .bool false, .slice none 0 0] 43))) := hideP ((Below.refl _ _).alloc (Nat.le_of_lt (obj_lt h)) _)

  clear h
  go_enter Tryz.func17, Tryz.ntmps17
  go_wp2_with (go_at_call 27; refine (writeS b t _ HF.out (by omega)).mono ?_; rintro e w2 ⟨rfl, hw⟩; have HR : Hid _ := hideP hw; clear hw)
  go_end0
  exact ⟨rfl, HR.out.1, HB.out.trans HR.out.2⟩

set_option maxHeartbeats 1000000 in
theorem write_three (b : Nat) (line : Int) (t : ByteArray)  (w : World) (h : w.heap[b]? = some freshObj) (_hs : t.size ≤ 131072) :
    Calls Tryz.prog 17 #[.agg #[.int .u8 3, .int .i64 line, .string t, .int .i64 0, .bool false, .slice none 0 0], .pointer (some ⟨b, 0, none⟩)] w fun e w' => e = .returned (.tuple #[]) ∧ BuilderAt 53 5 b b (.pointer (some ⟨b, 0, none⟩)) (byteCells (t.data.toList)) w' ∧ Below b w w' := by
  have HF : Hid ((w.alloc (.cells #[.int .u8 3, .int .i64 line, .string t, .int .i64 0, .bool false, .slice none 0 0] 43)).heap[b]? = some freshObj) := hideP (kept_alloc h)
  have HB : Hid (Below b w (w.alloc (.cells #[.int .u8 3, .int .i64 line, .string t, .int .i64 0, .bool false, .slice none 0 0] 43))) := hideP ((Below.refl _ _).alloc (Nat.le_of_lt (obj_lt h)) _)

  clear h
  go_enter Tryz.func17, Tryz.ntmps17
  go_wp2_with (go_at_call 27; refine (writeS b t _ HF.out (by omega)).mono ?_; rintro e w2 ⟨rfl, hw⟩; have HR : Hid _ := hideP hw; clear hw)
  go_end0
  exact ⟨rfl, HR.out.1, HB.out.trans HR.out.2⟩

set_option maxHeartbeats 1000000 in
theorem write_seven (b : Nat) (line : Int) (t : ByteArray)  (w : World) (h : w.heap[b]? = some freshObj) (_hs : t.size ≤ 131072) :
    Calls Tryz.prog 17 #[.agg #[.int .u8 7, .int .i64 line, .string t, .int .i64 0, .bool false, .slice none 0 0], .pointer (some ⟨b, 0, none⟩)] w fun e w' => e = .returned (.tuple #[]) ∧ BuilderAt 53 5 b b (.pointer (some ⟨b, 0, none⟩)) (byteCells (t.data.toList)) w' ∧ Below b w w' := by
  have HF : Hid ((w.alloc (.cells #[.int .u8 7, .int .i64 line, .string t, .int .i64 0, .bool false, .slice none 0 0] 43)).heap[b]? = some freshObj) := hideP (kept_alloc h)
  have HB : Hid (Below b w (w.alloc (.cells #[.int .u8 7, .int .i64 line, .string t, .int .i64 0, .bool false, .slice none 0 0] 43))) := hideP ((Below.refl _ _).alloc (Nat.le_of_lt (obj_lt h)) _)

  clear h
  go_enter Tryz.func17, Tryz.ntmps17
  go_wp2_with (go_at_call 27; refine (writeS b t _ HF.out (by omega)).mono ?_; rintro e w2 ⟨rfl, hw⟩; have HR : Hid _ := hideP hw; clear hw)
  go_end0
  exact ⟨rfl, HR.out.1, HB.out.trans HR.out.2⟩

set_option maxHeartbeats 1000000 in
theorem write_big (b : Nat) (line : Int) (t : ByteArray)  (w : World) (h : w.heap[b]? = some freshObj) (_hs : t.size ≤ 131072) :
    Calls Tryz.prog 17 #[.agg #[.int .u8 2, .int .i64 line, .string t, .int .i64 0, .bool false, .slice none 0 0], .pointer (some ⟨b, 0, none⟩)] w fun e w' => e = .returned (.tuple #[]) ∧ BuilderAt 53 5 b b (.pointer (some ⟨b, 0, none⟩)) (byteCells (t.data.toList)) w' ∧ Below b w w' := by
  have HF : Hid ((w.alloc (.cells #[.int .u8 2, .int .i64 line, .string t, .int .i64 0, .bool false, .slice none 0 0] 43)).heap[b]? = some freshObj) := hideP (kept_alloc h)
  have HB : Hid (Below b w (w.alloc (.cells #[.int .u8 2, .int .i64 line, .string t, .int .i64 0, .bool false, .slice none 0 0] 43))) := hideP ((Below.refl _ _).alloc (Nat.le_of_lt (obj_lt h)) _)

  clear h
  go_enter Tryz.func17, Tryz.ntmps17
  go_wp2_with (go_at_call 27; refine (writeS b t _ HF.out (by omega)).mono ?_; rintro e w2 ⟨rfl, hw⟩; have HR : Hid _ := hideP hw; clear hw)
  go_end0
  exact ⟨rfl, HR.out.1, HB.out.trans HR.out.2⟩

set_option maxHeartbeats 1000000 in
theorem write_key (b : Nat) (line : Int) (t : ByteArray)  (w : World) (h : w.heap[b]? = some freshObj) (_hs : t.size ≤ 131072) :
    Calls Tryz.prog 17 #[.agg #[.int .u8 6, .int .i64 line, .string t, .int .i64 0, .bool false, .slice none 0 0], .pointer (some ⟨b, 0, none⟩)] w fun e w' => e = .returned (.tuple #[]) ∧ BuilderAt 53 5 b b (.pointer (some ⟨b, 0, none⟩)) (byteCells (58 :: t.data.toList)) w' ∧ Below b w w' := by
  have HF : Hid ((w.alloc (.cells #[.int .u8 6, .int .i64 line, .string t, .int .i64 0, .bool false, .slice none 0 0] 43)).heap[b]? = some freshObj) := hideP (kept_alloc h)
  have HB : Hid (Below b w (w.alloc (.cells #[.int .u8 6, .int .i64 line, .string t, .int .i64 0, .bool false, .slice none 0 0] 43))) := hideP ((Below.refl _ _).alloc (Nat.le_of_lt (obj_lt h)) _)

  clear h
  go_enter Tryz.func17, Tryz.ntmps17
  go_wp2_with (go_at_call 27; refine (writeS b _ _ HF.out (by rw [ByteArray.size_append]; have : (⟨#[58]⟩ : ByteArray).size = 1 := rfl; omega)).mono ?_; rintro e w2 ⟨rfl, hw⟩; have HR : Hid _ := hideP hw; clear hw)
  go_end0
  exact ⟨rfl, by rw [← add_one]; exact HR.out.1, HB.out.trans HR.out.2⟩

set_option maxHeartbeats 1000000 in
theorem write_int (b : Nat) (line : Int) (t : ByteArray) (n : Int) (h0 : -9223372036854775808 ≤ n) (h1 : n ≤ 9223372036854775807) (w : World) (hp2 : 2 < w.heap.size) (htab : TabIs Tryz.prog w powName .u64 pow10Tab) (h : w.heap[b]? = some freshObj) (_hs : t.size ≤ 131072) :
    Calls Tryz.prog 17 #[.agg #[.int .u8 2, .int .i64 line, .string t, .int .i64 n, .bool true, .slice none 0 0], .pointer (some ⟨b, 0, none⟩)] w fun e w' => e = .returned (.tuple #[]) ∧ BuilderAt 53 5 b b (.pointer (some ⟨b, 0, none⟩)) (byteCells (itoa n)) w' ∧ Below b w w' := by
  have HF : Hid ((w.alloc (.cells #[.int .u8 2, .int .i64 line, .string t, .int .i64 n, .bool true, .slice none 0 0] 43)).heap[b]? = some freshObj) := hideP (kept_alloc h)
  have HB : Hid (Below b w (w.alloc (.cells #[.int .u8 2, .int .i64 line, .string t, .int .i64 n, .bool true, .slice none 0 0] 43))) := hideP ((Below.refl _ _).alloc (Nat.le_of_lt (obj_lt h)) _)
  have HT : Hid (TabIs Tryz.prog (w.alloc (.cells #[.int .u8 2, .int .i64 line, .string t, .int .i64 n, .bool true, .slice none 0 0] 43)) powName .u64 pow10Tab) := hideP (tab_kept hp2 htab ((Below.refl _ _).alloc (Nat.le_refl _) _))
  clear h htab
  go_enter Tryz.func17, Tryz.ntmps17
  go_wp2_with (first
    | (go_at_call 28; refine (formatInt n _ h0 h1 HT.out).mono ?_; rintro e w1 ⟨rfl, hw1⟩; have HF1 : Hid (w1.heap[b]? = some freshObj) := hideP ((hw1.block b (obj_lt HF.out)).trans HF.out); have HB1 : Hid (Below b w w1) := hideP (HB.out.trans (hw1.mono (Nat.le_of_lt (obj_lt HF.out)))); clear hw1)
    | (go_at_call 27; refine (writeS b _ _ HF1.out (itoa_size n h0 h1)).mono ?_; rintro e w2 ⟨rfl, hw⟩; have HR : Hid _ := hideP hw; clear hw))
  go_end0
  exact ⟨rfl, HR.out.1, HB1.out.trans HR.out.2⟩

/-- What write owes String. -/
def Writes (k line : Int) (t : ByteArray) (n : Int) (fits : Bool) (l : List UInt8) (w : World) : Prop := ∀ (b : Nat) (W : World), Below w.heap.size w W → W.heap[b]? = some freshObj →
  Calls Tryz.prog 17 #[.agg #[.int .u8 k, .int .i64 line, .string t, .int .i64 n, .bool fits, .slice none 0 0], .pointer (some ⟨b, 0, none⟩)] W fun e w' => e = .returned (.tuple #[]) ∧ BuilderAt 53 5 b b (.pointer (some ⟨b, 0, none⟩)) (byteCells l) w' ∧ Below b W w'
theorem string_any (k line : Int) (t : ByteArray) (n : Int) (fits : Bool) (l : List UInt8) (w : World) (cW : Hid (Writes k line t n fits l w)) :
    Calls Tryz.prog 12 #[.agg #[.int .u8 k, .int .i64 line, .string t, .int .i64 n, .bool fits, .slice none 0 0]] w fun e w' => e = .returned (.string (str l)) ∧ Below w.heap.size w w' := by
  have HB : Hid (Below w.heap.size w ((w.alloc (.cells #[.int .u8 k, .int .i64 line, .string t, .int .i64 n, .bool fits, .slice none 0 0] 43)).alloc (.cells #[.pointer none, .slice none 0 0] 53))) := hideP (((Below.refl _ _).alloc (Nat.le_refl _) _).alloc (by rw [World.size_alloc]; omega) _)
  have HF : Hid (((w.alloc (.cells #[.int .u8 k, .int .i64 line, .string t, .int .i64 n, .bool fits, .slice none 0 0] 43)).alloc (.cells #[.pointer none, .slice none 0 0] 53)).heap[w.heap.size + 1]? = some freshObj) := hideP (by
    rw [← World.size_alloc w (.cells #[.int .u8 k, .int .i64 line, .string t, .int .i64 n, .bool fits, .slice none 0 0] 43)]
    show ((w.alloc _).heap.push _)[(w.alloc _).heap.size]? = _
    rw [Array.getElem?_push_size]; rfl)
  go_enter Tryz.func12, Tryz.ntmps12
  go_wp2_with (first
    | (go_at_call 17; refine (cW.out _ _ HB.out HF.out).mono ?_; rintro e w2 ⟨rfl, hw⟩; have HR : Hid _ := hideP hw; clear hw)
    | (go_at_call 18; refine (Any.Builder_String_any Tryz.lays169 Tryz.Builder_Extra_169 (w.heap.size + 1) (w.heap.size + 1) l _ (Or.inr HR.out.1) (Nat.le_of_lt HR.out.1.lt)).mono ?_; rintro e w3 ⟨rfl, hw⟩; have HS : Hid _ := hideP hw; clear hw))
  go_ret
  exact ⟨rfl, HB.out.trans ((HR.out.2.mono (Nat.le_add_right _ _)).trans (HS.out.mono (Nat.le_add_right _ _)))⟩
theorem zzString_any (k line : Int) (t : ByteArray) (n : Int) (fits : Bool) (l : List UInt8) (w : World) (cW : Hid (Writes k line t n fits l w)) :
    Calls Tryz.prog 10 #[.int .u8 k, .int .i64 line, .string t, .int .i64 n, .bool fits] w fun e w' => e = .returned (.string (str l)) ∧ Below w.heap.size w w' := by
  go_enter Tryz.func10, Tryz.ntmps10
  go_wp2_with (go_at_call 12; refine (string_any _ _ _ _ _ l _ cW).mono ?_; rintro e w2 ⟨rfl, hw⟩; have HR : Hid _ := hideP hw; clear hw)
  go_ret
  exact ⟨rfl, HR.out⟩

/-- The forms that atom hands back. -/
def Good (f : Form) : Prop := f = (0, [], 0, false) ∨ (∃ n, f = (2, [], n, true) ∧ -9223372036854775808 ≤ n ∧ n ≤ 9223372036854775807) ∨ ∃ l : List UInt8, l.length ≤ 131072 ∧ (f = (1, l, 0, false) ∨ f = (2, l, 0, false) ∨ f = (3, l, 0, false) ∨ f = (6, l, 0, false) ∨ f = (7, l, 0, false))
theorem writes_form (f : Form) (line : Int) (w : World) (hf : Good f) (hp2 : 2 < w.heap.size) (htab : TabIs Tryz.prog w powName .u64 pow10Tab) : Writes (f.1 : Int) line (str f.2.1) f.2.2.1 f.2.2.2 (writeL f) w := by
  intro b W hW hb
  rcases hf with rfl | ⟨n, rfl, h0, h1⟩ | ⟨l, hl, rfl | rfl | rfl | rfl | rfl⟩
  · exact write_nil b line (str []) W hb (Nat.zero_le _)
  · exact write_int b line (str []) n h0 h1 W (Nat.lt_of_lt_of_le hp2 hW.size) (tab_kept hp2 htab hW) hb (Nat.zero_le _)
  · exact write_one b line (str l) W hb hl
  · exact write_big b line (str l) W hb hl
  · exact write_three b line (str l) W hb hl
  · exact write_key b line (str l) W hb hl
  · exact write_seven b line (str l) W hb hl
/-- ZZednString. -/
theorem zzString_form (f : Form) (line : Int) (w : World) (hf : Good f) (hp2 : 2 < w.heap.size) (htab : TabIs Tryz.prog w powName .u64 pow10Tab) :
    Calls Tryz.prog 10 #[.int .u8 (f.1 : Int), .int .i64 line, .string (str f.2.1), .int .i64 f.2.2.1, .bool f.2.2.2] w fun e w' => e = .returned (.string (str (writeL f))) ∧ Below w.heap.size w w' :=
  zzString_any _ _ _ _ _ _ w (hideP (writes_form f line w hf hp2 htab))
end Go.Proofs.Qxb6613685aGreatFmt
