/-
  The walk of the first law's function.
-/
import Derived.Test.Qxb6614847aFmtResC
import Derived.Lib.SlBytesRow
namespace Go.Proofs.Qxb6614847aFmt
open Go.RowKit Go.Extern.Stop Go.Stop Go.Extern Go.Maps

theorem parse_full (F : Interp) (Fu n : Nat) (s : ByteArray) (w : World) (hF : F.answers w.tape) (hs : s.size ≤ 2097152) (hFu : s.size < Fu) (hn : s.size < n) : Calls Tryf.prog 5 #[.string s] w (PsPost Fu n s w) :=
  parse_any F Fu n s w hF hs hn (fun _ i w' _ _ hi h hF' => result_any F Fu _ s i w' hF' h hi hs hFu)
def sixB (c : UInt8) : Bool := match parse 5 5 [97, c, 98] with
  | (id, some acc) => tokB c && (id == [97, c, 98]) && acc.isEmpty
  | (id, none) => !tokB c && (id == [97])
theorem six_all : (List.range 256).all (fun k => sixB (UInt8.ofNat k)) = true := by kernel_rfl
theorem six (c : UInt8) : sixB c = true := by
  have h := List.all_eq_true.mp six_all c.toNat (List.mem_range.mpr c.toNat_lt)
  have e : UInt8.ofNat c.toNat = c := by simp
  rw [e] at h
  exact h
theorem six_ok {c : UInt8} {id : List UInt8} {acc : List Res} (h : parse 5 5 [97, c, 98] = (id, some acc)) : tokB c = true ∧ id = [97, c, 98] ∧ acc = [] := by
  have h1 := six c
  unfold sixB at h1
  rw [h] at h1
  simp only [Bool.and_eq_true, beq_iff_eq] at h1
  exact ⟨h1.1.1, h1.1.2, List.isEmpty_iff.mp h1.2⟩
theorem six_bad {c : UInt8} {id : List UInt8} (h : parse 5 5 [97, c, 98] = (id, none)) : tokB c = false ∧ id = [97] := by
  have h1 := six c
  unfold sixB at h1
  rw [h] at h1
  simp only [Bool.and_eq_true, beq_iff_eq, Bool.not_eq_true'] at h1
  exact h1
theorem one_byte (c : UInt8) (w : World) : (convert 22 9 (.slice (some ⟨w.heap.size, 0, none⟩) 1 1)).run Tryf.prog (w.alloc (.cells #[.int .u8 (c.toNat : Int)] 5)) = .ok (.string ⟨#[c]⟩) (w.alloc (.cells #[.int .u8 (c.toNat : Int)] 5)) := by
  refine Lib.run_convert_whole (P := Tryf.prog) _ 22 5 9 Tryf.underlying22 Tryf.underlying5 Tryf.underlying9 w.heap.size 0 ⟨#[c]⟩ ?_ 1
  intro j hj
  have h0 : j = 0 := by simp [ByteArray.size] at hj; omega
  subst h0
  exact alloc_cell _ _ 0 _ _ rfl
theorem zz_is (c : UInt8) (b : Bool) (h : tokB c = b) (w : World) : Calls Tryf.prog 6 #[.int .u8 (c.toNat : Int)] w fun e w' => e = .returned (.bool b) ∧ w' = w := by
  have H := hideP h
  clear h
  go_enter Tryf.func6, Tryf.ntmps6
  go_wp2_with (go_at_call 12; refine (tok_is _ b H.out _).mono ?_; rintro e w' ⟨rfl, hw⟩; have hw2 := hw.symm; subst hw2)
  go_ret
  exact ⟨rfl, rfl⟩
set_option maxHeartbeats 4000000 in
set_option maxRecDepth 20000 in
theorem tokenID (F : Interp) (c : UInt8) (w : World) (hF : F.answers w.tape) : Calls Tryf.prog 3 #[.int .u8 (c.toNat : Int)] w fun e w' => e = .returned (.bool true) ∧ Below w.heap.size w w' := by
  have HF := hideP hF
  have hcv := one_byte c w
  clear hF
  go_enter Tryf.func3, Tryf.ntmps3
  go_wp2_with (go_at_call 5; refine (parse_full F 5 5 _ _ (by exact HF.out) (by simp [ByteArray.size]) (by simp [ByteArray.size]) (by simp [ByteArray.size])).mono ?_)
  have Hd : Hid (((⟨#[97]⟩ : ByteArray) ++ (⟨#[c]⟩ : ByteArray) ++ (⟨#[98]⟩ : ByteArray)).data.toList = [97, c, 98]) := hideP (by simp)
  rintro e w1 (⟨id, acc, Ms, sv, hp, rfl, hrows, hb⟩ | ⟨id, T, x, hp, rfl, hb⟩)
  · rw [Hd.out] at hp
    obtain ⟨ht, rfl, rfl⟩ := six_ok hp
    obtain ⟨ao, cap, rfl⟩ := hrows.shape
    have Ht := hideP ht
    have Hb := hideP hb
    have tq : ([97, c, 98] == ((⟨#[97]⟩ : ByteArray) ++ (⟨#[c]⟩ : ByteArray) ++ (⟨#[98]⟩ : ByteArray)).toList) = true := by rw [beq_iff_eq, ByteArray.toList_eq, Hd.out]
    clear hp ht hrows hb
    go_wp2_with (go_at_call 6; refine (zz_is c true Ht.out _).mono ?_; rintro e w2 ⟨rfl, hw⟩; have hw2 := hw.symm; subst hw2)
    go_ret
    exact ⟨rfl, (((Below.refl w.heap.size w).alloc (Nat.le_refl _) _).trans (Hb.out.mono (by simp))).alloc (by have := Hb.out.size; simp at this; omega) _⟩
  · rw [Hd.out] at hp
    obtain ⟨ht, rfl⟩ := six_bad hp
    have Ht := hideP ht
    have Hb := hideP hb
    clear hp ht hb
    go_wp2_with (go_at_call 6; refine (zz_is c false Ht.out _).mono ?_; rintro e w2 ⟨rfl, hw⟩; have hw2 := hw.symm; subst hw2)
    go_ret
    exact ⟨rfl, (((Below.refl w.heap.size w).alloc (Nat.le_refl _) _).trans (Hb.out.mono (by simp))).alloc (by have := Hb.out.size; simp at this; omega) _⟩
end Go.Proofs.Qxb6614847aFmt
