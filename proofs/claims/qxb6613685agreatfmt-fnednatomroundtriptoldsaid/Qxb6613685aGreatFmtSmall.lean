/-
  The walks of isDigit and smallInteger.
-/
import Derived.Test.Qxb6613685aGreatFmtProg
import Derived.Test.Qxb6613685aGreatFmtTrip
import Derived.Lib.SlBytesRow
import Derived.WalkKit
import Derived.WalkSpells
import Derived.WalkLawsBesides
import Derived.Below
import Derived.Handy
namespace Go.Proofs.Qxb6613685aGreatFmt
open Go.RowKit
open Go.Lib hiding intOf

theorem hideP {p : Prop} (h : p) : Hid p := h
theorem ret_two {k : IntKind} {a b : Int} {c d : Bool} (h : a = b) (h' : c = d) : Ending.returned (.tuple #[.int k a, .bool c]) = .returned (.tuple #[.int k b, .bool d]) := by rw [h, h']

theorem isDigit_any (n : Int) (w : World) : Calls Tryz.prog 15 #[.int .u8 n] w fun e w' => e = .returned (.bool (decide (48 ≤ n) && decide (n ≤ 57))) ∧ w' = w := by
  by_cases h : 48 ≤ n
  · go_enter Tryz.func15, Tryz.ntmps15
    go_wp2
    go_ret
    exact ⟨by rw [decide_eq_true h]; rfl, rfl⟩
  · go_enter Tryz.func15, Tryz.ntmps15
    go_wp2
    go_ret
    exact ⟨by rw [decide_eq_false (show ¬ 48 ≤ n by omega)]; rfl, rfl⟩

/-! ### the plain facts on a ByteArray's bytes -/
theorem get_data (s : ByteArray) (i : Nat) (h : i < s.size) : s.data.toList[i]? = some s[i] := by
  rw [List.getElem?_eq_getElem (by simpa using h)]
  rfl
theorem data_length (s : ByteArray) : s.data.toList.length = s.size := by simp
theorem take_snoc (s : ByteArray) (k : Nat) (h : k < s.size) : s.data.toList.take (k + 1) = s.data.toList.take k ++ [s[k]] := by
  rw [List.take_succ_eq_append_getElem (by simpa using h)]; rfl

/-- What the loop over the digits has gathered. -/
structure Gath (ds : ByteArray) (k n : Nat) : Prop where
  all : (ds.data.toList.take k).all dig = true
  val : valFrom 0 (ds.data.toList.take k) = n
theorem gath_zero (ds : ByteArray) : Gath ds 0 0 := ⟨rfl, by rw [List.take_zero, valFrom_nil]⟩
theorem gath_step {ds : ByteArray} {k n : Nat} (h : Gath ds k n) (hk : k < ds.size) (hd : dig ds[k] = true) : Gath ds (k + 1) (n * 10 + dv ds[k]) := by
  refine ⟨?_, ?_⟩
  · rw [take_snoc ds k hk, List.all_append, h.all, List.all_cons, hd]; rfl
  · rw [take_snoc ds k hk, valFrom_append, h.val, valFrom_cons, valFrom_nil]
theorem gath_lt {ds : ByteArray} {k n : Nat} (h : Gath ds k n) (hk : k ≤ 18) : n < 1000000000000000000 := by
  have h1 := valFrom_lt _ h.all
  rw [h.val] at h1
  have h2 : (ds.data.toList.take k).length ≤ k := List.length_take_le _ _
  have h3 : 10 ^ (ds.data.toList.take k).length ≤ 10 ^ 18 := Nat.pow_le_pow_right (by decide) (by omega)
  have p18 : 10 ^ 18 = 1000000000000000000 := by decide
  omega
theorem gath_bad {ds : ByteArray} {k n : Nat} (_h : Gath ds k n) (hk : k < ds.size) (hd : dig ds[k] = false) : ds.data.toList.all dig = false := by
  rw [List.all_eq_false]
  exact ⟨ds[k], List.mem_of_getElem? (get_data ds k hk), by rw [hd]; simp⟩
theorem gath_end {ds : ByteArray} {n : Nat} (h : Gath ds ds.size n) : ds.data.toList.all dig = true ∧ valFrom 0 ds.data.toList = n := by
  have h1 := h.all
  have h2 := h.val
  rw [List.take_of_length_le (by rw [data_length]; exact Nat.le_refl _)] at h1 h2
  exact ⟨h1, h2⟩

/-- The cases of smallL over the bytes behind the sign. -/
theorem small_none {l ds : List UInt8} (hb : body l = ds) (h : ds = [] ∨ 18 < ds.length ∨ (ds.head? = some 48 ∧ 1 < ds.length)) : smallL l = none := by
  unfold smallL; rw [hb, if_pos h]
theorem small_bad {l ds : List UInt8} (hb : body l = ds) (h : ds.all dig = false) : smallL l = none := by
  unfold smallL
  rw [hb]
  split
  · rfl
  · rw [if_neg (by rw [h]; simp)]
theorem small_some {l ds : List UInt8} {n : Nat} (hb : body l = ds) (h : ¬ (ds = [] ∨ 18 < ds.length ∨ (ds.head? = some 48 ∧ 1 < ds.length))) (ha : ds.all dig = true) (hv : valFrom 0 ds = n) : smallL l = some (if l.head? = some 45 then -(n : Int) else n) := by
  unfold smallL; rw [hb, if_neg h, if_pos ha, hv]

/-- What smallInteger hands back. -/
def SmallRet (l : List UInt8) (w : World) (e : Ending) (w' : World) : Prop :=
  e = .returned (.tuple #[.int .i64 ((smallL l).getD 0), .bool (smallL l).isSome]) ∧ w' = w


theorem gath_lt17 {ds : ByteArray} {k n : Nat} (h : Gath ds k n) (hk : k ≤ 17) : n < 100000000000000000 := by
  have h1 := valFrom_lt _ h.all
  rw [h.val] at h1
  have h2 : (ds.data.toList.take k).length ≤ k := List.length_take_le _ _
  have h3 : 10 ^ (ds.data.toList.take k).length ≤ 10 ^ 17 := Nat.pow_le_pow_right (by decide) (by omega)
  have p17 : 10 ^ 17 = 100000000000000000 := by decide
  omega
theorem num_step {m d : Nat} {c : UInt8} (hd : d = c.toNat - 48) (h : 48 ≤ c.toNat) : Value.int .i64 (10 * (m : Int) + ((c.toNat : Int) - 48)) = .int .i64 ((m * 10 + d : Nat) : Int) := by
  congr 1; omega
theorem head_is (s : ByteArray) (h : 0 < s.size) (c : UInt8) (hc : s[0].toNat = c.toNat) : s.data.toList.head? = some c := by
  rw [List.head?_eq_getElem?, get_data s 0 h]
  exact congrArg some (UInt8.toNat_inj.1 hc)
theorem head_not (s : ByteArray) (h : 0 < s.size) (c : UInt8) (hc : s[0].toNat ≠ c.toNat) : ¬ s.data.toList.head? = some c := by
  rw [List.head?_eq_getElem?, get_data s 0 h]
  exact fun e => hc (congrArg UInt8.toNat (Option.some.inj e))
theorem data_ne (s : ByteArray) (h : 0 < s.size) : s.data.toList ≠ [] := fun e => by
  have : s.size = 0 := by rw [← data_length, e]; rfl
  omega
set_option maxHeartbeats 1000000 in
theorem small_plain_long (s : ByteArray) (b o cap : Nat) (w : World) (hc : Bytes w b o s) (h1 : 0 < s.size) (hsg : (s[0].toNat : Int) ≠ 45 ∧ (s[0].toNat : Int) ≠ 43) (hB : body s.data.toList = s.data.toList) (hs : s.size ≤ 131072) (hl : 18 < s.size) :
    Calls Tryz.prog 20 #[.slice (some ⟨b, o, none⟩) s.size cap] w (SmallRet s.data.toList w) := by
  have hc0 := hc 0 h1
  rw [Nat.add_zero] at hc0
  have q1 : ((s[0].toNat : Int) == 45) = false := beq_eq_false_iff_ne.2 hsg.1
  have q2 : ((s[0].toNat : Int) == 43) = false := beq_eq_false_iff_ne.2 hsg.2
  have hz : (0 : Int) < (s.size : Int) := by omega
  have hz0 : ((s.size : Int) == 0) = false := beq_eq_false_iff_ne.2 (by omega)
  have hz18 : (18 : Int) < (s.size : Int) := by omega
  have hN := hideP (small_none hB (.inr (.inl (by rw [data_length]; exact hl))))
  clear hsg hc hB
  go_enter Tryz.func20, Tryz.ntmps20
  go_wp2
  go_ret2
  unfold SmallRet
  rw [hN.out]
  exact ⟨rfl, rfl⟩
set_option maxHeartbeats 1000000 in
theorem small_plain_zero (s : ByteArray) (b o cap : Nat) (w : World) (hc : Bytes w b o s) (h1 : 0 < s.size) (hsg : (s[0].toNat : Int) ≠ 45 ∧ (s[0].toNat : Int) ≠ 43) (hB : body s.data.toList = s.data.toList) (h48 : (s[0].toNat : Int) = 48) (h2 : 1 < s.size) (hs : s.size ≤ 18) :
    Calls Tryz.prog 20 #[.slice (some ⟨b, o, none⟩) s.size cap] w (SmallRet s.data.toList w) := by
  have hc0 := hc 0 h1
  rw [Nat.add_zero] at hc0
  have q1 : ((s[0].toNat : Int) == 45) = false := beq_eq_false_iff_ne.2 hsg.1
  have q2 : ((s[0].toNat : Int) == 43) = false := beq_eq_false_iff_ne.2 hsg.2
  have hz : (0 : Int) < (s.size : Int) := by omega
  have hz0 : ((s.size : Int) == 0) = false := beq_eq_false_iff_ne.2 (by omega)
  have q3 : ((s[0].toNat : Int) == 48) = true := beq_iff_eq.2 h48
  have hz1 : (1 : Int) < (s.size : Int) := by omega
  have hz18 : (s.size : Int) ≤ 18 := by omega
  have hN := hideP (small_none hB (.inr (.inr ⟨head_is s h1 48 (by show s[0].toNat = 48; omega), by rw [data_length]; exact h2⟩)))
  clear hsg hc hB h48
  go_enter Tryz.func20, Tryz.ntmps20
  go_wp2
  go_ret2
  unfold SmallRet
  rw [hN.out]
  exact ⟨rfl, rfl⟩
set_option maxHeartbeats 1000000 in
theorem small_plain_loop (s : ByteArray) (b o cap : Nat) (w : World) (hc : Bytes w b o s) (h1 : 0 < s.size) (hsg : (s[0].toNat : Int) ≠ 45 ∧ (s[0].toNat : Int) ≠ 43) (hB : body s.data.toList = s.data.toList) (h48 : (s[0].toNat : Int) ≠ 48) (hs : s.size ≤ 18) :
    Calls Tryz.prog 20 #[.slice (some ⟨b, o, none⟩) s.size cap] w (SmallRet s.data.toList w) := by
  have hc0 := hc 0 h1
  rw [Nat.add_zero] at hc0
  have q1 : ((s[0].toNat : Int) == 45) = false := beq_eq_false_iff_ne.2 hsg.1
  have q2 : ((s[0].toNat : Int) == 43) = false := beq_eq_false_iff_ne.2 hsg.2
  have hz : (0 : Int) < (s.size : Int) := by omega
  have hz0 : ((s.size : Int) == 0) = false := beq_eq_false_iff_ne.2 (by omega)
  have q3 : ((s[0].toNat : Int) == 48) = false := beq_eq_false_iff_ne.2 h48
  have hz18 : (s.size : Int) ≤ 18 := by omega
  have HC := hideP hc
  have HB := hideP hB
  have H45 : Hid (¬ s.data.toList.head? = some 45) := head_not s h1 45 (by show s[0].toNat ≠ 45; omega)
  have Hok : Hid (¬ (s.data.toList = [] ∨ 18 < s.data.toList.length ∨ (s.data.toList.head? = some 48 ∧ 1 < s.data.toList.length))) := by
    rintro (e | e | ⟨e1, e2⟩)
    · exact data_ne s h1 e
    · rw [data_length] at e; omega
    · rw [data_length] at e2
      exact head_not s h1 48 (by show s[0].toNat ≠ 48; omega) e1
  clear hsg hc hB h48
  go_enter Tryz.func20, Tryz.ntmps20
  go_wp2
  go_loop [5, 47] (fun n i => ∃ k m : Nat, k ≤ s.size ∧ i = .int .i64 k ∧ n = .int .i64 m ∧ Hid (Gath s k m)) (fun _ i => s.size - (intOf i).toNat)
  case atStart => exact ⟨0, 0, Nat.zero_le _, rfl, rfl, gath_zero _⟩
  case round =>
    obtain ⟨k, m, hk, rfl, rfl, hg⟩ := hrel
    by_cases hlt : k < s.size
    · have hm := gath_lt17 hg.out (by omega)
      have hmz : (m : Int) ≤ 99999999999999999 := by omega
      have hck := HC.out k hlt
      have hb256 := (s[k]).toNat_lt
      by_cases hd : dig s[k] = true
      · have hd' := (dig_iff _).1 hd
        have hst := hideP (gath_step hg.out hlt hd)
        have Hdv : Hid (dv s[k] = (s[k]).toNat - 48) := rfl
        have t1 : decide (48 ≤ ((s[k]).toNat : Int)) = true := decide_eq_true (by omega)
        have t2 : decide (((s[k]).toNat : Int) ≤ 57) = true := decide_eq_true (by omega)
        clear hd
        go_wp2_with (go_at_call 15; refine (isDigit_any _ _).mono ?_; rintro e w' ⟨rfl, hw⟩; have hw2 := hw.symm; subst hw2)
        go_round
        case rel => exact ⟨k + 1, m * 10 + dv s[k], by omega, by go_num, num_step Hdv.out hd'.1, hst.out⟩
        case measure => (simp [intOf]; try omega)
      · have hN := hideP (small_bad HB.out (gath_bad hg.out hlt (by simpa using hd)))
        have t1 : (decide (48 ≤ ((s[k]).toNat : Int)) && decide (((s[k]).toNat : Int) ≤ 57)) = false := by simpa [dig] using hd
        go_wp2_with (go_at_call 15; refine (isDigit_any _ _).mono ?_; rintro e w' ⟨rfl, hw⟩; have hw2 := hw.symm; subst hw2; rw [t1])
        go_ret2
        unfold SmallRet
        rw [hN.out]
        exact ⟨rfl, rfl⟩
    · obtain ⟨ha, hv⟩ := gath_end (by have := hg.out; rwa [show k = s.size by omega] at this)
      have hS := hideP (small_some HB.out Hok.out ha hv)
      clear ha hv
      go_wp2_with fail
      go_ret2
      unfold SmallRet
      rw [hS.out, if_neg H45.out]
      exact ⟨rfl, rfl⟩
set_option maxHeartbeats 1000000 in
theorem small_plain_one (s : ByteArray) (b o cap : Nat) (w : World) (hc : Bytes w b o s) (h1 : 0 < s.size) (hsg : (s[0].toNat : Int) ≠ 45 ∧ (s[0].toNat : Int) ≠ 43) (hB : body s.data.toList = s.data.toList) (h48 : (s[0].toNat : Int) = 48) (h2 : s.size = 1) (hs : s.size ≤ 18) :
    Calls Tryz.prog 20 #[.slice (some ⟨b, o, none⟩) s.size cap] w (SmallRet s.data.toList w) := by
  have hc0 := hc 0 h1
  rw [Nat.add_zero] at hc0
  have q1 : ((s[0].toNat : Int) == 45) = false := beq_eq_false_iff_ne.2 hsg.1
  have q2 : ((s[0].toNat : Int) == 43) = false := beq_eq_false_iff_ne.2 hsg.2
  have hz : (0 : Int) < (s.size : Int) := by omega
  have hz0 : ((s.size : Int) == 0) = false := beq_eq_false_iff_ne.2 (by omega)
  have q3 : ((s[0].toNat : Int) == 48) = true := beq_iff_eq.2 h48
  have q4 : (s.size : Int) ≤ 1 := by omega
  have hz18 : (s.size : Int) ≤ 18 := by omega
  have HC := hideP hc
  have HB := hideP hB
  have H45 : Hid (¬ s.data.toList.head? = some 45) := head_not s h1 45 (by show s[0].toNat ≠ 45; omega)
  have Hok : Hid (¬ (s.data.toList = [] ∨ 18 < s.data.toList.length ∨ (s.data.toList.head? = some 48 ∧ 1 < s.data.toList.length))) := by
    rintro (e | e | ⟨e1, e2⟩)
    · exact data_ne s h1 e
    · rw [data_length] at e; omega
    · rw [data_length] at e2
      omega
  clear hsg hc hB h48 h2
  go_enter Tryz.func20, Tryz.ntmps20
  go_wp2
  go_loop [5, 47] (fun n i => ∃ k m : Nat, k ≤ s.size ∧ i = .int .i64 k ∧ n = .int .i64 m ∧ Hid (Gath s k m)) (fun _ i => s.size - (intOf i).toNat)
  case atStart => exact ⟨0, 0, Nat.zero_le _, rfl, rfl, gath_zero _⟩
  case round =>
    obtain ⟨k, m, hk, rfl, rfl, hg⟩ := hrel
    by_cases hlt : k < s.size
    · have hm := gath_lt17 hg.out (by omega)
      have hmz : (m : Int) ≤ 99999999999999999 := by omega
      have hck := HC.out k hlt
      have hb256 := (s[k]).toNat_lt
      by_cases hd : dig s[k] = true
      · have hd' := (dig_iff _).1 hd
        have hst := hideP (gath_step hg.out hlt hd)
        have Hdv : Hid (dv s[k] = (s[k]).toNat - 48) := rfl
        have t1 : decide (48 ≤ ((s[k]).toNat : Int)) = true := decide_eq_true (by omega)
        have t2 : decide (((s[k]).toNat : Int) ≤ 57) = true := decide_eq_true (by omega)
        clear hd
        go_wp2_with (go_at_call 15; refine (isDigit_any _ _).mono ?_; rintro e w' ⟨rfl, hw⟩; have hw2 := hw.symm; subst hw2)
        go_round
        case rel => exact ⟨k + 1, m * 10 + dv s[k], by omega, by go_num, num_step Hdv.out hd'.1, hst.out⟩
        case measure => (simp [intOf]; try omega)
      · have hN := hideP (small_bad HB.out (gath_bad hg.out hlt (by simpa using hd)))
        have t1 : (decide (48 ≤ ((s[k]).toNat : Int)) && decide (((s[k]).toNat : Int) ≤ 57)) = false := by simpa [dig] using hd
        go_wp2_with (go_at_call 15; refine (isDigit_any _ _).mono ?_; rintro e w' ⟨rfl, hw⟩; have hw2 := hw.symm; subst hw2; rw [t1])
        go_ret2
        unfold SmallRet
        rw [hN.out]
        exact ⟨rfl, rfl⟩
    · obtain ⟨ha, hv⟩ := gath_end (by have := hg.out; rwa [show k = s.size by omega] at this)
      have hS := hideP (small_some HB.out Hok.out ha hv)
      clear ha hv
      go_wp2_with fail
      go_ret2
      unfold SmallRet
      rw [hS.out, if_neg H45.out]
      exact ⟨rfl, rfl⟩
end Go.Proofs.Qxb6613685aGreatFmt
