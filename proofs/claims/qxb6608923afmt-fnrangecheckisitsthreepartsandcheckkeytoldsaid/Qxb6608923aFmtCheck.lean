/-
  The walk of (client.Range).Check.
-/
import Derived.Test.Qxb6608923aFmtKeys
namespace Go.Proofs.Qxb6608923aFmt
open Go.RowKit Go.Extern.Stop Go.Stop Go.Extern

/-- The block that the receiver is copied into. -/
abbrev boxed (p f : ByteArray) (l : Int) : Obj := .cells #[.string p, .string f, .int .i64 l] 26

theorem bcell {W w1 : World} (hb : Below W.heap.size W w1) : (∀ b o, b < W.heap.size → w1.cell? ⟨b, o, none⟩ = W.cell? ⟨b, o, none⟩) ∧ (∀ b o, b < W.heap.size → w1.frozen? ⟨b, o, none⟩ = W.frozen? ⟨b, o, none⟩) :=
  ⟨fun b o h => hb.cell (p := ⟨b, o, none⟩) h, fun b o h => hb.frozen (p := ⟨b, o, none⟩) h⟩

theorem below_call {B : Nat} {a w w' : World} (h : Below B a w) (hB : B ≤ w.heap.size) (o : Obj) (h2 : Below (w.alloc o).heap.size (w.alloc o) w') : Below B a w' :=
  (h.alloc hB o).trans (h2.mono (by simp; omega))
theorem below_boxed (w : World) (o : Obj) : Below w.heap.size w (w.alloc o) := (Below.refl _ _).alloc (Nat.le_refl _) _

section
variable (p f : ByteArray) (l : Int) (w : World)

set_option maxHeartbeats 400000 in
theorem check_bare_ok (hp : p.size ≤ 1024) (hl : 0 ≤ l) (hf : f.toList.isEmpty = true) :
    Calls Tryf.prog 6 #[.agg #[.string p, .string f, .int .i64 l]] w (Passed w) := by
  have h1 : (p.size : Int) ≤ 1024 := by omega
  go_enter Tryf.func6, Tryf.ntmps6
  go_wp2_with fail
  go_ret
  exact ⟨rfl, below_boxed _ _⟩

set_option maxHeartbeats 400000 in
theorem check_bare_limit (F : Interp) (hF : F.answers w.tape) (hp : p.size ≤ 1024) (hl : l < 0) (hf : f.toList.isEmpty = true) :
    Calls Tryf.prog 6 #[.agg #[.string p, .string f, .int .i64 l]] w (Failed w) := by
  have h1 : (p.size : Int) ≤ 1024 := by omega
  go_enter Tryf.func6, Tryf.ntmps6
  go_wp2_with (go_at_call 10; refine (errorf_limit F l _ _ (by exact hF) (by go_simp)).mono ?_; rintro e w' ⟨b, t, rfl, hlt, hcb, hb2⟩)
  go_ret
  exact ⟨_, _, rfl, below_call (below_boxed _ _) (by simp) _ hb2⟩

set_option maxHeartbeats 400000 in
theorem check_bare_prefix (F : Interp) (hF : F.answers w.tape) (hp : 1024 < p.size) (hf : f.toList.isEmpty = true) :
    Calls Tryf.prog 6 #[.agg #[.string p, .string f, .int .i64 l]] w (Failed w) := by
  have h1 : (1024 : Int) < (p.size : Int) := by omega
  go_enter Tryf.func6, Tryf.ntmps6
  go_wp2_with (go_at_call 10; refine (errorf_prefix F p.size 1024 _ _ (by exact hF) (by go_simp) (by go_simp)).mono ?_; rintro e w' ⟨b, t, rfl, hlt, hcb, hb2⟩)
  go_ret
  exact ⟨_, _, rfl, below_call (below_boxed _ _) (by simp) _ hb2⟩

set_option maxHeartbeats 400000 in
theorem check_key_refused (F : Interp) (hF : F.answers w.tape) (hf : f.toList.isEmpty = false) (c : Calls Tryf.prog 7 #[.string f] (w.alloc (boxed p f l)) (Refused (w.alloc (boxed p f l)))) :
    Calls Tryf.prog 6 #[.agg #[.string p, .string f, .int .i64 l]] w (Failed w) := by
  go_enter Tryf.func6, Tryf.ntmps6
  go_wp2_with (first
    | (go_at_call 7; refine c.mono ?_; rintro e w1 ⟨b, t, rfl, hlt, hc, hb⟩; have hF1 : F.answers w1.tape := by rw [hb.tape]; exact hF)
    | (go_at_call 10; refine (errorf_start F _ b t _ (by exact hF1) (by go_simp) (by rw [((Below.refl _ w1).alloc (Nat.le_refl _) _).cell (p := ⟨b, 0, none⟩) hlt]; exact hc)).mono ?_; rintro e w' ⟨T, x, rfl, hb2⟩))
  go_ret
  exact ⟨_, _, rfl, below_call ((below_boxed _ _).trans (hb.mono (by simp))) (by have := hb.size; simp at this; omega) _ hb2⟩

set_option maxHeartbeats 400000 in
theorem check_key_ok (hp : p.size ≤ 1024) (hl : 0 ≤ l) (hf : f.toList.isEmpty = false) (c : Calls Tryf.prog 7 #[.string f] (w.alloc (boxed p f l)) (Passed (w.alloc (boxed p f l)))) :
    Calls Tryf.prog 6 #[.agg #[.string p, .string f, .int .i64 l]] w (Passed w) := by
  have h1 : (p.size : Int) ≤ 1024 := by omega
  go_enter Tryf.func6, Tryf.ntmps6
  go_wp2_with (go_at_call 7; refine c.mono ?_; rintro e w1 ⟨rfl, hb⟩; obtain ⟨hc, hfr⟩ := bcell hb)
  go_ret
  exact ⟨rfl, (below_boxed _ _).trans (hb.mono (by simp))⟩

set_option maxHeartbeats 400000 in
theorem check_key_limit (F : Interp) (hF : F.answers w.tape) (hp : p.size ≤ 1024) (hl : l < 0) (hf : f.toList.isEmpty = false) (c : Calls Tryf.prog 7 #[.string f] (w.alloc (boxed p f l)) (Passed (w.alloc (boxed p f l)))) :
    Calls Tryf.prog 6 #[.agg #[.string p, .string f, .int .i64 l]] w (Failed w) := by
  have h1 : (p.size : Int) ≤ 1024 := by omega
  go_enter Tryf.func6, Tryf.ntmps6
  go_wp2_with (first
    | (go_at_call 7; refine c.mono ?_; rintro e w1 ⟨rfl, hb⟩; obtain ⟨hc, hfr⟩ := bcell hb; have hF1 : F.answers w1.tape := by rw [hb.tape]; exact hF)
    | (go_at_call 10; refine (errorf_limit F l _ _ (by exact hF1) (by go_simp)).mono ?_; rintro e w' ⟨b, t, rfl, hlt, hcb, hb2⟩))
  go_ret
  exact ⟨_, _, rfl, below_call ((below_boxed _ _).trans (hb.mono (by simp))) (by have := hb.size; simp at this; omega) _ hb2⟩

set_option maxHeartbeats 400000 in
theorem check_key_prefix (F : Interp) (hF : F.answers w.tape) (hp : 1024 < p.size) (hf : f.toList.isEmpty = false) (c : Calls Tryf.prog 7 #[.string f] (w.alloc (boxed p f l)) (Passed (w.alloc (boxed p f l)))) :
    Calls Tryf.prog 6 #[.agg #[.string p, .string f, .int .i64 l]] w (Failed w) := by
  have h1 : (1024 : Int) < (p.size : Int) := by omega
  go_enter Tryf.func6, Tryf.ntmps6
  go_wp2_with (first
    | (go_at_call 7; refine c.mono ?_; rintro e w1 ⟨rfl, hb⟩; obtain ⟨hc, hfr⟩ := bcell hb; have hF1 : F.answers w1.tape := by rw [hb.tape]; exact hF)
    | (go_at_call 10; refine (errorf_prefix F p.size 1024 _ _ (by exact hF1) (by go_simp) (by go_simp)).mono ?_; rintro e w' ⟨b, t, rfl, hlt, hcb, hb2⟩))
  go_ret
  exact ⟨_, _, rfl, below_call ((below_boxed _ _).trans (hb.mono (by simp))) (by have := hb.size; simp at this; omega) _ hb2⟩
end
end Go.Proofs.Qxb6608923aFmt
