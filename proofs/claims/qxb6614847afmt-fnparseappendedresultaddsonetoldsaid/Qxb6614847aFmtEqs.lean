/-
  The walks of equals, written, propertyValue.
-/
import Derived.Test.Qxb6614847aFmtSpc
import Derived.Test.Qxb6614847aFmtVal
namespace Go.Proofs.Qxb6614847aFmt
open Go.RowKit Go.Extern.Stop Go.Stop Go.Extern

/-- equals' end. -/
def EPost (w : World) (R : Nat) (s : ByteArray) (i : Nat) (e : Ending) (w' : World) : Prop :=
  (∃ j, i ≤ j ∧ j ≤ s.size ∧ eqL (rest s i) = some (rest s j) ∧ e = .returned .nilIface ∧ Moved w w' R s j) ∨
  (eqL (rest s i) = none ∧ ∃ v, e = .returned v ∧ Bad w R v w')
set_option maxHeartbeats 4000000 in
set_option maxRecDepth 20000 in
theorem equals_any (F : Interp) (R : Nat) (s key : ByteArray) (i : Nat) (w : World) (hF : F.answers w.tape) (h : Rd w R s i) (hs : s.size ≤ 2097152) (hkey : key.size ≤ 9000000) :
    Calls Tryf.prog 26 #[.pointer (some ⟨R, 0, none⟩), .string key] w (EPost w R s i) := by
  have HR : Hid (Rd w R s i) := hideP h
  have HF : Hid (F.answers w.tape) := hideP hF
  by_cases hn : (rest s i).head? = some 61
  · obtain ⟨hi, _⟩ := head_at hn
    have HE : Hid (eqL (rest s i) = space (rest s (i + 1))) := hideP (by unfold eqL; rw [if_pos hn, rest_cons s i hi]; rfl)
    have t0 : (((nx (rest s i)).toNat : Int) == 61) = true := eq_byte (n := 61) (by decide) ((nx_is (by decide)).mpr hn)
    obtain ⟨_, h0, h1, h2⟩ := h
    clear hF hn
    go_enter Tryf.func26, Tryf.ntmps26
    go_wp2_with (first | (go_at_call 14; refine (next_is R s i _ (by exact HR.out)).mono ?_; rintro e w1 ⟨rfl, m, hw⟩; have hw2 := hw.symm; subst hw2) | (go_at_call 8; refine (space_any F R s (i + 1) _ (by exact HF.out) (by exact (((Moved.refl HR.out).drewN _).step (i + 1)).rd) (by omega) hs).mono ?_))
    rintro e w1 (⟨j, hkj, hj, hq, rfl, hm⟩ | ⟨hq, v, rfl, hv, hg⟩)
    · go_wp2_with fail
      go_ret
      exact Or.inl ⟨j, by omega, hj, HE.out.trans hq, rfl, (((Moved.refl HR.out).drewN _).step (i + 1)).trans hm⟩
    · go_wp2_with fail
      go_ret
      exact Or.inr ⟨HE.out.trans hq, _, rfl, hv, (((Moved.refl HR.out).drewN _).step (i + 1)).grown.trans hg⟩
  · have t0 : (((nx (rest s i)).toNat : Int) == 61) = false := ne_byte (n := 61) (fun e => hn ((nx_is (by decide)).mp e))
    have tk : ¬ 9223372036854775807 < 10 + key.size := by omega
    have HE : Hid (eqL (rest s i) = none) := hideP (by unfold eqL; rw [if_neg hn])
    clear hF hn h
    go_enter Tryf.func26, Tryf.ntmps26
    go_wp2_with (first | (go_at_call 14; refine (next_is R s i _ (by exact HR.out)).mono ?_; rintro e w1 ⟨rfl, m, hw⟩; have hw2 := hw.symm; subst hw2) | (go_at_call 16; refine (unexpected_any F R s _ i _ (by exact HF.out) (by exact ((Moved.refl HR.out).drewN _).rd)).mono ?_; rintro e w1 ⟨v, rfl, hv⟩))
    go_ret
    exact Or.inr ⟨HE.out, v, rfl, Bad.after ((Moved.refl HR.out).drewN _).grown hv⟩

/-- written's end. -/
def WPost (w : World) (R : Nat) (s : ByteArray) (i k : Nat) (ct : List UInt8) (al : Bool) (e : Ending) (w' : World) : Prop :=
  (i < k ∧ ∃ x, x = (if al = true then ct else (s.extract i k).data.toList) ∧ e = .returned (.tuple #[.string ⟨x.toArray⟩, .nilIface]) ∧ Moved w w' R s k) ∨
  (k = i ∧ ∃ v, e = .returned (.tuple #[.string ⟨#[]⟩, v]) ∧ Bad w R v w')
set_option maxHeartbeats 4000000 in
set_option maxRecDepth 20000 in
theorem written_any (F : Interp) (R : Nat) (s : ByteArray) (i k : Nat) (ct : List UInt8) (al : Bool) (w : World) (hF : F.answers w.tape) (h : Rd w R s k) (hik : i ≤ k) (hk : k ≤ s.size) :
    Calls Tryf.prog 42 #[.pointer (some ⟨R, 0, none⟩), .int .i64 (i : Int), .string ⟨ct.toArray⟩, .bool al] w (WPost w R s i k ct al) := by
  have HR : Hid (Rd w R s k) := hideP h
  have HF : Hid (F.answers w.tape) := hideP hF
  obtain ⟨_, h0, h1, h2⟩ := h
  clear hF
  by_cases hki : k = i
  · subst hki
    have te : ((k : Int) == (k : Int)) = true := by rw [beq_iff_eq]
    go_enter Tryf.func42, Tryf.ntmps42
    go_wp2_with (go_at_call 16; refine (unexpected_any F R s _ k _ (by exact HF.out) (by exact HR.out)).mono ?_; rintro e w1 ⟨v, rfl, hv⟩)
    go_returns
    exact Or.inr ⟨rfl, v, rfl, hv⟩
  · have te : ((k : Int) == (i : Int)) = false := by simpa using fun e => hki (by omega)
    have gi : (i : Int) ≤ (k : Int) := by omega
    have gk : (k : Int) ≤ (s.size : Int) := by omega
    cases al with
    | true =>
      go_enter Tryf.func42, Tryf.ntmps42
      go_wp2
      go_returns
      exact Or.inl ⟨by omega, ct, rfl, rfl, Moved.refl HR.out⟩
    | false =>
      go_enter Tryf.func42, Tryf.ntmps42
      go_wp2
      go_quiet (fail)
      go_wp2
      go_returns
      exact Or.inl ⟨by omega, (s.extract i k).data.toList, rfl, by rw [bytes_eta]; rfl, (Moved.refl HR.out).drewN _⟩
end Go.Proofs.Qxb6614847aFmt
