/-
  The walks: errors.New, wire.checkLength.
-/
import Derived.Test.Qxb6608923aFmtStops
import Derived.WalkKit
import Derived.WalkSpells
import Derived.Below
namespace Go.Proofs.Qxb6608923aFmt
open Go.RowKit Go.Extern.Stop Go.Stop Go.Extern
attribute [local go_sem] Tryf.call13 Tryf.guard Tryf.fmt0 Tryf.fmt0r Tryf.fmt1 Tryf.fmt1r Tryf.fmt2 Tryf.fmt2r Tryf.fmt3 Tryf.fmt3r Tryf.fmt4 Tryf.fmt4r Tryf.fmt5 Tryf.fmt5r Tryf.fmt6 Tryf.fmt6r Tryf.fmt7 Tryf.fmt7r Tryf.fmt8 Tryf.fmt8r Tryf.fmt9 Tryf.fmt9r
attribute [local go_sem] Tryf.op9_115 Tryf.op9_115w Tryf.op9_100 Tryf.op9_100w Tryf.op9_119w Tryf.op3_115 Tryf.op3_115w Tryf.op3_100 Tryf.op3_100w Tryf.op3_119w Tryf.strict9 Tryf.strict3 Tryf.ptr35 Tryf.elem35 Tryf.isError35' Tryf.ptr32 Tryf.elem32 Tryf.isError32'

/-- errors.New. -/
theorem new_any (s : ByteArray) (w : World) : Calls Tryf.prog 14 #[.string s] w fun e w' => e = .returned (.iface 35 (.pointer (some ⟨w.heap.size, 0, none⟩))) ∧ w' = w.alloc (.cells #[.string s] 37) := by
  go_enter Tryf.func14, Tryf.ntmps14
  go_wp2
  go_ret
  exact ⟨rfl, rfl⟩

theorem checkLength_ok (what : ByteArray) (n m : Int) (w : World) (h : n ≤ m) :
    Calls Tryf.prog 15 #[.string what, .int .i64 n, .int .i64 m] w fun e w' => e = .returned .nilIface ∧ w' = w := by
  have h' : ¬ m < n := by omega
  go_enter Tryf.func15, Tryf.ntmps15
  go_wp2
  go_ret
  exact ⟨rfl, rfl⟩

set_option maxHeartbeats 400000 in
theorem checkLength_bad (F : Interp) (what : ByteArray) (n m : Int) (w : World) (hF : F.answers w.tape) (h : m < n) :
    Calls Tryf.prog 15 #[.string what, .int .i64 n, .int .i64 m] w fun e w' => ∃ t, e = .returned (.iface 35 (.pointer (some ⟨w.heap.size + 1, 0, none⟩))) ∧ w' = ((w.alloc (.cells #[.iface 9 (.string what), .iface 3 (.int .i64 n), .iface 3 (.int .i64 m)] 20)).alloc (.cells #[.string t] 37)).drew := by
  have hF' := answers_open hF
  go_enter Tryf.func15, Tryf.ntmps15
  go_wp2
  go_ret
  exact ⟨_, rfl, rfl⟩

theorem cell_made (w : World) (s : ByteArray) : (w.alloc (.cells #[.string s] 37)).cell? ⟨w.heap.size, 0, none⟩ = some (.string s) := by go_simp
theorem cell_made1 (w : World) (s : ByteArray) : (w.alloc (.cells #[.string s] 37)).drew.cell? ⟨w.heap.size, 0, none⟩ = some (.string s) := by go_simp
theorem cell_made2 (w : World) (o : Obj) (s : ByteArray) : (((w.alloc o).alloc (.cells #[.string s] 37)).drew).cell? ⟨w.heap.size + 1, 0, none⟩ = some (.string s) := by go_simp

/-- What a refused key gives: a new error of errors.New's make, its text in memory. -/
def Refused (w : World) (e : Ending) (w' : World) : Prop :=
  ∃ b t, e = .returned (.iface 35 (.pointer (some ⟨b, 0, none⟩))) ∧ b < w'.heap.size ∧ w'.cell? ⟨b, 0, none⟩ = some (.string t) ∧ Below w.heap.size w w'
/-- What an accepted one gives. -/
def Passed (w : World) (e : Ending) (w' : World) : Prop := e = .returned .nilIface ∧ Below w.heap.size w w'

theorem key_empty (s : ByteArray) (w : World) (h : s.size = 0) :
    Calls Tryf.prog 11 #[.string s] w (Refused w) := by
  have h1 : ((s.size : Int) == 0) = true := beq_iff_eq.2 (by omega)
  go_enter Tryf.func11, Tryf.ntmps11
  go_wp2_with (go_at_call 14; refine (new_any _ _).mono ?_; rintro e w' ⟨rfl, rfl⟩)
  go_ret
  exact ⟨_, _, rfl, by simp, cell_made _ _, (Below.refl _ _).alloc (Nat.le_refl _) _⟩

set_option maxHeartbeats 400000 in
theorem key_long (F : Interp) (s : ByteArray) (w : World) (hF : F.answers w.tape) (h : 1024 < s.size) :
    Calls Tryf.prog 11 #[.string s] w (Refused w) := by
  have h1 : ((s.size : Int) == 0) = false := beq_eq_false_iff_ne.2 (by omega)
  have h2 : (1024 : Int) < (s.size : Int) := by omega
  go_enter Tryf.func11, Tryf.ntmps11
  go_wp2_with (go_at_call 15; refine (checkLength_bad F _ _ _ _ (by exact hF) (by exact h2)).mono ?_; rintro e w' ⟨t, rfl, rfl⟩)
  go_ret
  exact ⟨_, t, rfl, by simp, cell_made2 _ _ _, (((Below.refl _ _).alloc (Nat.le_refl _) _).alloc (by simp) _).drew⟩

set_option maxHeartbeats 400000 in
theorem key_invalid (s : ByteArray) (w : World) (h0 : 1 ≤ s.size) (h : s.size ≤ 1024)
    (cV : Calls Tryf.prog 16 #[.string s] w fun e w' => e = .returned (.bool false) ∧ Below w.heap.size w w') :
    Calls Tryf.prog 11 #[.string s] w (Refused w) := by
  have h1 : ((s.size : Int) == 0) = false := beq_eq_false_iff_ne.2 (by omega)
  have h2 : (s.size : Int) ≤ 1024 := by omega
  go_enter Tryf.func11, Tryf.ntmps11
  go_wp2_with (first
    | (go_at_call 15; refine (checkLength_ok _ _ _ _ (by exact h2)).mono ?_; rintro e w' ⟨rfl, rfl⟩)
    | (go_at_call 16; refine cV.mono ?_; rintro e w1 ⟨rfl, hb⟩)
    | (go_at_call 14; refine (new_any _ _).mono ?_; rintro e w' ⟨rfl, rfl⟩))
  go_ret
  exact ⟨_, _, rfl, by simp, cell_made _ _, hb.alloc hb.size _⟩

set_option maxHeartbeats 400000 in
theorem errorf_nul (F : Interp) (i : Int) (b : Nat) (w : World) (hF : F.answers w.tape) (hc : w.cell? ⟨b, 0, none⟩ = some (.iface 3 (.int .i64 i))) :
    Calls Tryf.prog 10 #[.string ⟨#[107, 101, 121, 32, 104, 111, 108, 100, 115, 32, 97, 32, 78, 85, 76, 32, 98, 121, 116, 101, 32, 97, 116, 32, 111, 102, 102, 115, 101, 116, 32, 37, 100]⟩, .slice (some ⟨b, 0, none⟩) 1 1] w (Refused w) := by
  have hF' := answers_open hF
  go_enter Tryf.func10, Tryf.ntmps10
  go_wp2
  go_ret
  exact ⟨_, _, rfl, by simp, cell_made1 _ _, ((Below.refl _ _).alloc (Nat.le_refl _) _).drew⟩

set_option maxHeartbeats 400000 in
theorem key_nul (F : Interp) (s : ByteArray) (i : Int) (w : World) (hF : F.answers w.tape) (h0 : 1 ≤ s.size) (h : s.size ≤ 1024) (hi : 0 ≤ i)
    (cV : Calls Tryf.prog 16 #[.string s] w fun e w' => e = .returned (.bool true) ∧ Below w.heap.size w w')
    (cI : ∀ w, Calls Tryf.prog 17 #[.string s, .int .u8 0] w fun e w' => e = .returned (.int .i64 i) ∧ w' = w) :
    Calls Tryf.prog 11 #[.string s] w (Refused w) := by
  have h1 : ((s.size : Int) == 0) = false := beq_eq_false_iff_ne.2 (by omega)
  have h2 : (s.size : Int) ≤ 1024 := by omega
  go_enter Tryf.func11, Tryf.ntmps11
  go_wp2_with (first
    | (go_at_call 15; refine (checkLength_ok _ _ _ _ (by exact h2)).mono ?_; rintro e w' ⟨rfl, rfl⟩)
    | (go_at_call 16; refine cV.mono ?_; rintro e w1 ⟨rfl, hb⟩; have hF1 : F.answers w1.tape := by rw [hb.tape]; exact hF)
    | (go_at_call 17; refine (cI _).mono ?_; rintro e w' ⟨rfl, rfl⟩)
    | (go_at_call 10; refine (errorf_nul F i _ _ (by exact hF1) (by go_simp)).mono ?_; rintro e w' ⟨b, t, rfl, hlt, hc, hb2⟩))
  go_ret
  exact ⟨b, t, rfl, hlt, hc, (hb.alloc hb.size _).trans (hb2.mono (by have := hb.size; simp; omega))⟩

set_option maxHeartbeats 400000 in
theorem key_ok (s : ByteArray) (i : Int) (w : World) (h0 : 1 ≤ s.size) (h : s.size ≤ 1024) (hi : i < 0)
    (cV : Calls Tryf.prog 16 #[.string s] w fun e w' => e = .returned (.bool true) ∧ Below w.heap.size w w')
    (cI : ∀ w, Calls Tryf.prog 17 #[.string s, .int .u8 0] w fun e w' => e = .returned (.int .i64 i) ∧ w' = w) :
    Calls Tryf.prog 11 #[.string s] w (Passed w) := by
  have h1 : ((s.size : Int) == 0) = false := beq_eq_false_iff_ne.2 (by omega)
  have h2 : (s.size : Int) ≤ 1024 := by omega
  go_enter Tryf.func11, Tryf.ntmps11
  go_wp2_with (first
    | (go_at_call 15; refine (checkLength_ok _ _ _ _ (by exact h2)).mono ?_; rintro e w' ⟨rfl, rfl⟩)
    | (go_at_call 16; refine cV.mono ?_; rintro e w1 ⟨rfl, hb⟩)
    | (go_at_call 17; refine (cI _).mono ?_; rintro e w' ⟨rfl, rfl⟩))
  go_ret
  exact ⟨rfl, hb⟩

/-- client.CheckKey hands on. -/
theorem client_passed (s : ByteArray) (w : World) (c : Calls Tryf.prog 11 #[.string s] w (Passed w)) : Calls Tryf.prog 7 #[.string s] w (Passed w) := by
  go_enter Tryf.func7, Tryf.ntmps7
  go_wp2_with (go_at_call 11; refine c.mono ?_; rintro e w' ⟨rfl, hb⟩)
  go_ret
  exact ⟨rfl, hb⟩
theorem client_refused (s : ByteArray) (w : World) (c : Calls Tryf.prog 11 #[.string s] w (Refused w)) : Calls Tryf.prog 7 #[.string s] w (Refused w) := by
  go_enter Tryf.func7, Tryf.ntmps7
  go_wp2_with (go_at_call 11; refine c.mono ?_; rintro e w' ⟨b, t, rfl, hlt, hc, hb⟩)
  go_ret
  exact ⟨b, t, rfl, hlt, hc, hb⟩

/-- An error came back. -/
def Failed (w : World) (e : Ending) (w' : World) : Prop := ∃ T x, e = .returned (.iface T x) ∧ Below w.heap.size w w'

set_option maxHeartbeats 400000 in
theorem errorf_limit (F : Interp) (i : Int) (b : Nat) (w : World) (hF : F.answers w.tape) (hc : w.cell? ⟨b, 0, none⟩ = some (.iface 3 (.int .i64 i))) :
    Calls Tryf.prog 10 #[.string ⟨#[108, 105, 109, 105, 116, 32, 111, 102, 32, 37, 100, 32, 114, 101, 99, 111, 114, 100, 115, 44, 32, 98, 101, 108, 111, 119, 32, 48]⟩, .slice (some ⟨b, 0, none⟩) 1 1] w (Refused w) := by
  have hF' := answers_open hF
  go_enter Tryf.func10, Tryf.ntmps10
  go_wp2
  go_ret
  exact ⟨_, _, rfl, by simp, cell_made1 _ _, ((Below.refl _ _).alloc (Nat.le_refl _) _).drew⟩

set_option maxHeartbeats 400000 in
theorem errorf_prefix (F : Interp) (i j : Int) (b : Nat) (w : World) (hF : F.answers w.tape) (hc : w.cell? ⟨b, 0, none⟩ = some (.iface 3 (.int .i64 i))) (hd : w.cell? ⟨b, 1, none⟩ = some (.iface 3 (.int .i64 j))) :
    Calls Tryf.prog 10 #[.string ⟨#[112, 114, 101, 102, 105, 120, 32, 111, 102, 32, 37, 100, 32, 98, 121, 116, 101, 115, 32, 105, 115, 32, 108, 111, 110, 103, 101, 114, 32, 116, 104, 97, 110, 32, 97, 110, 121, 32, 107, 101, 121, 44, 32, 37, 100, 32, 98, 121, 116, 101, 115, 32, 97, 116, 32, 109, 111, 115, 116]⟩, .slice (some ⟨b, 0, none⟩) 2 2] w (Refused w) := by
  have hF' := answers_open hF
  go_enter Tryf.func10, Tryf.ntmps10
  go_wp2
  go_ret
  exact ⟨_, _, rfl, by simp, cell_made1 _ _, ((Below.refl _ _).alloc (Nat.le_refl _) _).drew⟩

set_option maxHeartbeats 400000 in
theorem errorf_start (F : Interp) (c b : Nat) (s : ByteArray) (w : World) (hF : F.answers w.tape) (hc : w.cell? ⟨c, 0, none⟩ = some (.iface 35 (.pointer (some ⟨b, 0, none⟩)))) (hs : w.cell? ⟨b, 0, none⟩ = some (.string s)) :
    Calls Tryf.prog 10 #[.string ⟨#[115, 116, 97, 114, 116, 32, 107, 101, 121, 58, 32, 37, 119]⟩, .slice (some ⟨c, 0, none⟩) 1 1] w (Failed w) := by
  have hF' := answers_open hF
  obtain ⟨r, hop⟩ := Tryf.opPlain35_119w "fmt.errorf" ⟨b, 0, none⟩ s w hs
  go_enter Tryf.func10, Tryf.ntmps10
  go_wp2
  go_ret
  exact ⟨_, _, rfl, ((Below.refl _ _).alloc (Nat.le_refl _) _).drew⟩

end Go.Proofs.Qxb6608923aFmt
