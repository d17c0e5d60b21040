/-
  What CheckKey and Check answer, under the tables of utf8 and fmt's answers.
-/
import Derived.Test.Qxb6608923aFmtLay
import Derived.Test.Qxb6608923aFmtCheck
import Derived.Test.Qxb6608923aFmtIsKey
namespace Go.Proofs.Qxb6608923aFmt
open Go.RowKit Go.Extern.Stop Go.Stop Go.Extern Go.Lib

/-- utf8's two tables lie in their variables; F answers the stops. -/
structure Env (F : Interp) (w : World) : Prop where
  tape : F.answers w.tape
  tabs : Lib.Utf8Tabs 0 1 w
theorem Env.on {F : Interp} {w w' : World} (h : Env F w) (hb : Below w.heap.size w w') : Env F w' :=
  ⟨by rw [hb.tape]; exact h.tape, Utf8Tabs_below h.tabs hb⟩

/-- A key: 1 to 1024 bytes of UTF-8 without NUL. -/
def keyB (s : ByteArray) : Bool := decide (1 ≤ s.size ∧ s.size ≤ 1024) && (noNul s s.size && validD s.data.toList)

theorem index_any (s : ByteArray) (w : World) : Calls Tryf.prog 17 #[.string s, .int .u8 0] w fun e w' => e = .returned (.int .i64 (Lib.indexByte s.data.toList 0)) ∧ w' = w :=
  Any.strings_IndexByte Tryf.laysIndex s 0 w
theorem valid_any (s : ByteArray) (w : World) (hs : s.size ≤ maxLen) (hT : Lib.Utf8Tabs 0 1 w) : Calls Tryf.prog 16 #[.string s] w fun e w' => e = .returned (.bool (validD s.data.toList)) ∧ Below w.heap.size w w' :=
  Any.utf8_ValidString Tryf.laysValid s w (by unfold maxLen at hs; omega) hT

theorem key_passed (F : Interp) (s : ByteArray) (w : World) (E : Env F w) (hs : s.size ≤ maxLen) (hk : keyB s = true) : Calls Tryf.prog 7 #[.string s] w (Passed w) := by
  unfold keyB at hk
  rw [Bool.and_eq_true, Bool.and_eq_true, noNul_index] at hk
  obtain ⟨h1, h2, h3⟩ := hk
  simp only [decide_eq_true_eq] at h1 h2
  have c := valid_any s w hs E.tabs
  rw [h3] at c
  exact client_passed s w (key_ok s _ w h1.1 h1.2 h2 c (index_any s))
theorem key_refused (F : Interp) (s : ByteArray) (w : World) (E : Env F w) (hs : s.size ≤ maxLen) (hk : keyB s = false) : Calls Tryf.prog 7 #[.string s] w (Refused w) := by
  refine client_refused s w ?_
  by_cases h0 : s.size = 0
  · exact key_empty s w h0
  by_cases h1 : 1024 < s.size
  · exact key_long F s w E.tape h1
  have c := valid_any s w hs E.tabs
  cases hv : validD s.data.toList with
  | false =>
    rw [hv] at c
    exact key_invalid s w (by omega) (by omega) c
  | true =>
    rw [hv] at c
    refine key_nul F s _ w E.tape (by omega) (by omega) ?_ c (index_any s)
    unfold keyB at hk
    rw [hv, Bool.and_true, noNul_index, decide_eq_true (show 1 ≤ s.size ∧ s.size ≤ 1024 by omega), Bool.true_and, decide_eq_false_iff_not] at hk
    omega

/-- What Check accepts of From. -/
def fromB (f : ByteArray) : Bool := f.toList.isEmpty || keyB f

theorem check_passed (F : Interp) (p f : ByteArray) (l : Int) (w : World) (E : Env F w) (hf : f.size ≤ maxLen) (h1 : fromB f = true) (h2 : p.size ≤ 1024) (h3 : 0 ≤ l) :
    Calls Tryf.prog 6 #[.agg #[.string p, .string f, .int .i64 l]] w (Passed w) := by
  unfold fromB at h1
  cases he : f.toList.isEmpty with
  | true => exact check_bare_ok p f l w h2 h3 he
  | false =>
    rw [he, Bool.false_or] at h1
    exact check_key_ok p f l w h2 h3 he (key_passed F f _ (E.on (below_boxed _ _)) hf h1)
theorem check_failed (F : Interp) (p f : ByteArray) (l : Int) (w : World) (E : Env F w) (hf : f.size ≤ maxLen) (h : fromB f = false ∨ 1024 < p.size ∨ l < 0) :
    Calls Tryf.prog 6 #[.agg #[.string p, .string f, .int .i64 l]] w (Failed w) := by
  cases he : f.toList.isEmpty with
  | true =>
    have : fromB f = true := by unfold fromB; rw [he]; rfl
    by_cases h2 : 1024 < p.size
    · exact check_bare_prefix p f l w F E.tape h2 he
    · refine check_bare_limit p f l w F E.tape (by omega) ?_ he
      rcases h with h | h | h
      · rw [this] at h; cases h
      · omega
      · exact h
  | false =>
    cases hk : keyB f with
    | false => exact check_key_refused p f l w F E.tape he (key_refused F f _ (E.on (below_boxed _ _)) hf hk)
    | true =>
      have c := key_passed F f _ (E.on (below_boxed w (boxed p f l))) hf hk
      have : fromB f = true := by unfold fromB; rw [hk, Bool.or_true]
      by_cases h2 : 1024 < p.size
      · exact check_key_prefix p f l w F E.tape h2 he c
      · refine check_key_limit p f l w F E.tape (by omega) ?_ he c
        rcases h with h | h | h
        · rw [this] at h; cases h
        · omega
        · exact h
end Go.Proofs.Qxb6608923aFmt
