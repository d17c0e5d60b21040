/-
  The walk of number.
-/
import Derived.Test.Qxb6613685aGreatFmtErrs
import Derived.Test.Qxb6613685aGreatFmtSmallS
import Derived.WalkSmall
import Derived.FnData
import Derived.Lib.AtoiErrMem
namespace Go.Proofs.Qxb6613685aGreatFmt
open Go.RowKit
open Go.Lib hiding intOf

/-- The two blocks that number lays first. -/
def zeroObj : Obj := .cells #[.int .u8 0, .int .i64 0, .string ⟨#[]⟩, .int .i64 0, .bool false, .slice none 0 0] 43
def kindObj (k line : Int) : Obj := .cells #[.int .u8 k, .int .i64 line, .string ⟨#[]⟩, .int .i64 0, .bool false, .slice none 0 0] 43
/-- What a walk asks of six cells of its own. -/
def Six (W : World) (N : Nat) (k line : Int) : Prop :=
  (W.cell? ⟨N, 0, none⟩ = some (.int .u8 k) ∧ W.cell? ⟨N, 1, none⟩ = some (.int .i64 line) ∧ W.cell? ⟨N, 2, none⟩ = some (.string ⟨#[]⟩) ∧ W.cell? ⟨N, 3, none⟩ = some (.int .i64 0) ∧ W.cell? ⟨N, 4, none⟩ = some (.bool false) ∧ W.cell? ⟨N, 5, none⟩ = some (.slice none 0 0)) ∧
  W.frozen? ⟨N, 0, none⟩ = false ∧ W.frozen? ⟨N, 1, none⟩ = false ∧ W.frozen? ⟨N, 2, none⟩ = false ∧ W.frozen? ⟨N, 3, none⟩ = false ∧ W.frozen? ⟨N, 4, none⟩ = false ∧ W.frozen? ⟨N, 5, none⟩ = false
theorem six_of {W : World} {N : Nat} {k line : Int} (h : W.heap[N]? = some (kindObj k line)) : Six W N k line := by
  unfold Six kindObj at *
  simp [World.cell?, World.frozen?, h]
def start (w : World) (k line : Int) : World := (w.alloc zeroObj).alloc (kindObj k line)
theorem start_size (w : World) (k line : Int) : (start w k line).heap.size = w.heap.size + 2 := by unfold start; rw [World.size_alloc, World.size_alloc]
theorem start_first (w : World) (k line : Int) : (start w k line).heap[w.heap.size]? = some (kindObj 0 0) := by
  unfold start
  rw [Below.heap_alloc _ _ _ (by rw [World.size_alloc]; omega)]
  show (w.heap.push _)[w.heap.size]? = _
  rw [Array.getElem?_push_size]; rfl
theorem start_second (w : World) (k line : Int) : (start w k line).heap[w.heap.size + 1]? = some (kindObj k line) := by
  unfold start
  rw [← World.size_alloc w zeroObj]
  show ((w.alloc zeroObj).heap.push _)[(w.alloc zeroObj).heap.size]? = _
  rw [Array.getElem?_push_size]
theorem start_below (w : World) (k line : Int) : Below w.heap.size w (start w k line) := ((Below.refl _ _).alloc (Nat.le_refl _) _).alloc (by rw [World.size_alloc]; omega) _
theorem first_kept {w W : World} {k line : Int} (h : Below (start w k line).heap.size (start w k line) W) : Six W w.heap.size 0 0 :=
  six_of ((h.block _ (by rw [start_size]; omega)).trans (start_first w k line))
theorem second_kept {w W : World} {k line : Int} (h : Below (start w k line).heap.size (start w k line) W) : Six W (w.heap.size + 1) k line :=
  six_of ((h.block _ (by rw [start_size]; omega)).trans (start_second w k line))
theorem start_kept {w W : World} {k line : Int} (h : Below (start w k line).heap.size (start w k line) W) : Below w.heap.size w W :=
  (start_below w k line).trans (h.mono (by rw [start_size]; omega))
theorem step_kept {a b c : World} (h : Below a.heap.size a b) (k : Below b.heap.size b c) : Below a.heap.size a c := h.trans (k.mono h.size)
theorem bytes_kept {w W : World} {b o : Nat} {s : ByteArray} (hc : Bytes w b o s) (hb : b < w.heap.size) (h : Below w.heap.size w W) : Bytes W b o s := fun i hi => by
  rw [h.cell (p := ⟨b, o + i, none⟩) hb]; exact hc i hi
theorem small_no (s : ByteArray) (b o cap : Nat) (w : World) (hs : s.size ≤ 131072) (hcap : s.size ≤ cap) (hc : Bytes w b o s) (h1 : 0 < s.size) (hsm : smallL s.data.toList = none) :
    Calls Tryz.prog 20 #[.slice (some ⟨b, o, none⟩) s.size cap] w fun e w' => e = .returned (.tuple #[.int .i64 0, .bool false]) ∧ w' = w :=
  (small_any s b o cap w hs hcap hc h1).mono fun e w' h => by
    unfold SmallRet at h
    rw [hsm] at h
    exact h
theorem small_yes (s : ByteArray) (b o cap : Nat) (w : World) (hs : s.size ≤ 131072) (hcap : s.size ≤ cap) (hc : Bytes w b o s) (h1 : 0 < s.size) (n : Int) (hsm : smallL s.data.toList = some n) :
    Calls Tryz.prog 20 #[.slice (some ⟨b, o, none⟩) s.size cap] w fun e w' => e = .returned (.tuple #[.int .i64 n, .bool true]) ∧ w' = w :=
  (small_any s b o cap w hs hcap hc h1).mono fun e w' h => by
    unfold SmallRet at h
    rw [hsm] at h
    exact h
theorem parse_ok (s : ByteArray) (v : Int) (w : World) (hs : s.size ≤ 131072) (h : parseIntB 64 s.data.toList = .ok v) :
    Calls Tryz.prog 22 #[.string s, .int .i64 10, .int .i64 64] w fun e w' => e = .returned (.tuple #[.int .i64 v, .nilIface]) ∧ Below w.heap.size w w' :=
  (Any.strconv_ParseInt_10_at64_ok Tryz.laysC174 s (by omega) v h w).mono fun e w' h => by
    refine ⟨h.1, ?_⟩
    rcases h.2 with rfl | ⟨t, rfl⟩
    · exact Below.refl _ _
    · exact bytesWorld_below _ _ _
theorem parse_range (s : ByteArray) (x : Addr) (w : World) (hs : s.size ≤ 131072) (h : parseIntB 64 s.data.toList = .range) (hvar : w.var? Tryz.prog "strconv.ErrRange" = some #[.iface 87 (.pointer (some x))]) :
    Calls Tryz.prog 22 #[.string s, .int .i64 10, .int .i64 64] w fun e w' => ∃ N n, e = .returned (.tuple #[.int .i64 n, .iface 98 (.pointer (some ⟨N, 0, none⟩))]) ∧ w'.cell? ⟨N, 2, none⟩ = some (.iface 87 (.pointer (some x))) ∧ Below w.heap.size w w' :=
  (Any.strconv_ParseInt_10_at64_range_var Tryz.laysC174 s (by omega) h 87 _ w hvar).mono fun e w' h => by
    obtain ⟨N, h1, _, h3, h4⟩ := h
    exact ⟨N, _, h1, by simp [World.cell?, h3], h4⟩
theorem global0 : Tryz.prog.globalNamed "strconv.ErrRange" = some 0 := by kernel_rfl
theorem var_cell {w : World} {x : Addr} (h : w.var? Tryz.prog "strconv.ErrRange" = some #[.iface 87 (.pointer (some x))]) : w.cell? ⟨0, 0, none⟩ = some (.iface 87 (.pointer (some x))) := by
  rw [World.var?_cell global0 h 0]; rfl
theorem var_kept {w W : World} {x : Addr} (hp : 0 < w.heap.size) (h : w.var? Tryz.prog "strconv.ErrRange" = some #[.iface 87 (.pointer (some x))]) (hb : Below w.heap.size w W) : W.var? Tryz.prog "strconv.ErrRange" = some #[.iface 87 (.pointer (some x))] :=
  var?_below hb global0 hp h
theorem err_num (line : Int) (tok : ByteArray) (w : World) (hs : tok.size ≤ 131072) : Calls Tryz.prog 13 #[.int .i64 line, .string tok, .string ⟨#[110, 111, 116, 32, 97, 32, 110, 117, 109, 98, 101, 114]⟩, .slice none 0 0] w fun e w' => (∃ a, e = .returned (.pointer (some a))) ∧ Below w.heap.size w w' :=
  ednError_any line tok _ w (by kernel_rfl) hs
theorem err_zero (line : Int) (tok : ByteArray) (w : World) (hs : tok.size ≤ 131072) : Calls Tryz.prog 13 #[.int .i64 line, .string tok, .string ⟨#[110, 111, 116, 32, 97, 32, 110, 117, 109, 98, 101, 114, 58, 32, 111, 110, 108, 121, 32, 48, 32, 109, 97, 121, 32, 98, 101, 103, 105, 110, 32, 119, 105, 116, 104, 32, 48]⟩, .slice none 0 0] w fun e w' => (∃ a, e = .returned (.pointer (some a))) ∧ Below w.heap.size w w' :=
  ednError_any line tok _ w (by kernel_rfl) hs
theorem err_key (line : Int) (tok : ByteArray) (w : World) (hs : tok.size ≤ 131072) : Calls Tryz.prog 13 #[.int .i64 line, .string tok, .string ⟨#[110, 111, 116, 32, 97, 32, 107, 101, 121, 119, 111, 114, 100]⟩, .slice none 0 0] w fun e w' => (∃ a, e = .returned (.pointer (some a))) ∧ Below w.heap.size w w' :=
  ednError_any line tok _ w (by kernel_rfl) hs
/-- What the walk of number is given. -/
structure Came (w : World) (B b o cap : Nat) (line : Int) (s : ByteArray) : Prop where
  hb : b < w.heap.size
  hB : B < w.heap.size
  line : w.cell? ⟨B, 5, none⟩ = some (.int .i64 line)
  tok : w.cell? ⟨B, 6, none⟩ = some (.slice (some ⟨b, o, none⟩) s.size cap)
  bytes : Bytes w b o s
  size : s.size ≤ 131072
  cap : s.size ≤ cap
  pos : 0 < s.size

set_option maxHeartbeats 1000000 in
theorem num_S (B b o cap : Nat) (line : Int) (s : ByteArray) (x : Addr) (w : World) (hc0 : Came w B b o cap line s) (hv : w.var? Tryz.prog "strconv.ErrRange" = some #[.iface 87 (.pointer (some x))]) (n : Int) (hsm : Hid (smallL s.data.toList = some n)) :
    Calls Tryz.prog 16 #[.pointer (some ⟨B, 0, none⟩)] w fun e w' => e = .returned (.tuple #[.agg #[.int .u8 2, .int .i64 line, .string ⟨#[]⟩, .int .i64 n, .bool true, .slice none 0 0], .nilIface]) ∧ Below w.heap.size w w' := by
  obtain ⟨hb, hB, hl, htk, hc, hs, hcap, h1⟩ := hc0
  have hp0 : 0 < w.heap.size := by omega
  have HW : Hid (Bytes ((w.alloc (.cells #[.int .u8 0, .int .i64 0, .string ⟨#[]⟩, .int .i64 0, .bool false, .slice none 0 0] 43)).alloc (.cells #[.int .u8 2, .int .i64 line, .string ⟨#[]⟩, .int .i64 0, .bool false, .slice none 0 0] 43)) b o s) := hideP (bytes_kept hc hb (start_below w 2 line))
  have hcv := run_convert_whole (P := Tryz.prog) _ 22 5 9 Tryz.underlying22 Tryz.underlying5 Tryz.underlying9 b o s HW.out cap
  have HC : Hid (Bytes w b o s) := hideP hc
  have HV : Hid (w.var? Tryz.prog "strconv.ErrRange" = some #[.iface 87 (.pointer (some x))]) := hideP hv
  clear hc hv
  go_enter Tryz.func16, Tryz.ntmps16
  go_wp2_with (first
    | (go_at_call 20; refine (small_yes s b o cap _ hs hcap HW.out h1 n hsm.out).mono ?_; rintro e w' ⟨rfl, hw⟩; have hw2 := hw.symm; subst hw2)
    )
  (try simp only [Exit.inBlock, Exit.then])
  refine bodyPost_ret (by simp [results, Tryz.results16, go_sem]; try rfl) rfl ?_
  refine ⟨rfl, ?_⟩
  repeat (refine Below.setCell ?_ (by first | exact Nat.le_refl _ | exact Nat.le_add_right _ _) _)
  exact ((Below.refl _ _).alloc (Nat.le_refl _) _).alloc (by rw [World.size_alloc]; omega) _

set_option maxHeartbeats 1000000 in
theorem num_A (B b o cap : Nat) (line : Int) (s : ByteArray) (x : Addr) (w : World) (hc0 : Came w B b o cap line s) (hv : w.var? Tryz.prog "strconv.ErrRange" = some #[.iface 87 (.pointer (some x))]) (hsm : Hid (smallL s.data.toList = none)) (d : ByteArray) (hd : Hid (str (trimLeftS s.data.toList signs) = d)) (_h1 : d.size + 1 < s.size) (_h2 : (d.size : Int) < (s.size : Int) - 1) :
    Calls Tryz.prog 16 #[.pointer (some ⟨B, 0, none⟩)] w fun e w' => (∃ a, e = .returned (.tuple #[.agg #[.int .u8 0, .int .i64 0, .string ⟨#[]⟩, .int .i64 0, .bool false, .slice none 0 0], .iface 47 (.pointer (some a))])) ∧ Below w.heap.size w w' := by
  obtain ⟨hb, hB, hl, htk, hc, hs, hcap, h1⟩ := hc0
  have hp0 : 0 < w.heap.size := by omega
  have HW : Hid (Bytes ((w.alloc (.cells #[.int .u8 0, .int .i64 0, .string ⟨#[]⟩, .int .i64 0, .bool false, .slice none 0 0] 43)).alloc (.cells #[.int .u8 2, .int .i64 line, .string ⟨#[]⟩, .int .i64 0, .bool false, .slice none 0 0] 43)) b o s) := hideP (bytes_kept hc hb (start_below w 2 line))
  have hcv := run_convert_whole (P := Tryz.prog) _ 22 5 9 Tryz.underlying22 Tryz.underlying5 Tryz.underlying9 b o s HW.out cap
  have HC : Hid (Bytes w b o s) := hideP hc
  have HV : Hid (w.var? Tryz.prog "strconv.ErrRange" = some #[.iface 87 (.pointer (some x))]) := hideP hv
  clear hc hv
  go_enter Tryz.func16, Tryz.ntmps16
  go_wp2_with (first
    | (go_at_call 20; refine (small_no s b o cap _ hs hcap HW.out h1 hsm.out).mono ?_; rintro e w' ⟨rfl, hw⟩; have hw2 := hw.symm; subst hw2)
    | (go_at_call 21; refine (trimLeft_signs s _).mono ?_; rintro e w1 ⟨rfl, hb1'⟩; have hb1 : Below (start w 2 line).heap.size (start w 2 line) w1 := hb1'; clear hb1'; rw [hd.out]; have klw1 : w1.cell? ⟨B, 5, none⟩ = some (.int .i64 line) := by rw [(start_kept hb1).cell (p := ⟨B, 5, none⟩) hB]; exact hl)
    | (go_at_call 13; refine (err_num line s _ hs).mono ?_; rintro e w5 ⟨⟨a, rfl⟩, hb5'⟩; have hb5 := step_kept hb1 hb5'; clear hb5'; obtain ⟨⟨p0, p1, p2, p3, p4, p5⟩, q0, q1, q2, q3, q4, q5⟩ := first_kept hb5; obtain ⟨⟨u0, u1, u2, u3, u4, u5⟩, v0, v1, v2, v3, v4, v5⟩ := second_kept hb5)
    )
  (try simp only [Exit.inBlock, Exit.then])
  refine bodyPost_ret (by simp [results, Tryz.results16, go_sem, p0, p1, p2, p3, p4, p5]; try rfl) rfl ?_
  refine ⟨⟨a, rfl⟩, ?_⟩
  repeat (refine Below.setCell ?_ (by first | exact Nat.le_refl _ | exact Nat.le_add_right _ _) _)
  exact start_kept hb5

set_option maxHeartbeats 1000000 in
theorem num_B (B b o cap : Nat) (line : Int) (s : ByteArray) (x : Addr) (w : World) (hc0 : Came w B b o cap line s) (hv : w.var? Tryz.prog "strconv.ErrRange" = some #[.iface 87 (.pointer (some x))]) (hsm : Hid (smallL s.data.toList = none)) (d : ByteArray) (hd : Hid (str (trimLeftS s.data.toList signs) = d)) (_h3 : decide ((d.size : Int) < (s.size : Int) - 1) = false) (r : ByteArray) (hr : Hid (str (trimLeftS d.data.toList digs) = r)) (k : Nat) (_hk : (d.size : Int) - (r.size : Int) = (k : Int)) (_hk2 : k ≤ d.size) (_hx : d.extract k d.size = r) (_ds : d.size ≤ 131072) (_rs : r.size ≤ 131072) (_k1 : (1 : Int) < (k : Int)) (_k3 : 1 < k) (_k0 : 0 < d.size) (_k2 : (d[0].toNat : Int) = 48) :
    Calls Tryz.prog 16 #[.pointer (some ⟨B, 0, none⟩)] w fun e w' => (∃ a, e = .returned (.tuple #[.agg #[.int .u8 0, .int .i64 0, .string ⟨#[]⟩, .int .i64 0, .bool false, .slice none 0 0], .iface 47 (.pointer (some a))])) ∧ Below w.heap.size w w' := by
  obtain ⟨hb, hB, hl, htk, hc, hs, hcap, h1⟩ := hc0
  have hp0 : 0 < w.heap.size := by omega
  have HW : Hid (Bytes ((w.alloc (.cells #[.int .u8 0, .int .i64 0, .string ⟨#[]⟩, .int .i64 0, .bool false, .slice none 0 0] 43)).alloc (.cells #[.int .u8 2, .int .i64 line, .string ⟨#[]⟩, .int .i64 0, .bool false, .slice none 0 0] 43)) b o s) := hideP (bytes_kept hc hb (start_below w 2 line))
  have hcv := run_convert_whole (P := Tryz.prog) _ 22 5 9 Tryz.underlying22 Tryz.underlying5 Tryz.underlying9 b o s HW.out cap
  have HC : Hid (Bytes w b o s) := hideP hc
  have HV : Hid (w.var? Tryz.prog "strconv.ErrRange" = some #[.iface 87 (.pointer (some x))]) := hideP hv
  clear hc hv
  go_enter Tryz.func16, Tryz.ntmps16
  go_wp2_with (first
    | (go_at_call 21; have _g := hb1; clear _g; refine (trimLeft_digs d _).mono ?_; rintro e w2 ⟨rfl, hb2'⟩; have hb2 := step_kept hb1 hb2'; clear hb2'; rw [hr.out]; have klw2 : w2.cell? ⟨B, 5, none⟩ = some (.int .i64 line) := by rw [(start_kept hb2).cell (p := ⟨B, 5, none⟩) hB]; exact hl)
    | (go_at_call 20; refine (small_no s b o cap _ hs hcap HW.out h1 hsm.out).mono ?_; rintro e w' ⟨rfl, hw⟩; have hw2 := hw.symm; subst hw2)
    | (go_at_call 21; refine (trimLeft_signs s _).mono ?_; rintro e w1 ⟨rfl, hb1'⟩; have hb1 : Below (start w 2 line).heap.size (start w 2 line) w1 := hb1'; clear hb1'; rw [hd.out])
    | (go_at_call 13; refine (err_zero line s _ hs).mono ?_; rintro e w5 ⟨⟨a, rfl⟩, hb5'⟩; have hb5 := step_kept hb2 hb5'; clear hb5'; obtain ⟨⟨p0, p1, p2, p3, p4, p5⟩, q0, q1, q2, q3, q4, q5⟩ := first_kept hb5; obtain ⟨⟨u0, u1, u2, u3, u4, u5⟩, v0, v1, v2, v3, v4, v5⟩ := second_kept hb5)
    )
  (try simp only [Exit.inBlock, Exit.then])
  refine bodyPost_ret (by simp [results, Tryz.results16, go_sem, p0, p1, p2, p3, p4, p5]; try rfl) rfl ?_
  refine ⟨⟨a, rfl⟩, ?_⟩
  repeat (refine Below.setCell ?_ (by first | exact Nat.le_refl _ | exact Nat.le_add_right _ _) _)
  exact start_kept hb5

set_option maxHeartbeats 1000000 in
theorem num_weO (B b o cap : Nat) (line : Int) (s : ByteArray) (x : Addr) (w : World) (hc0 : Came w B b o cap line s) (hv : w.var? Tryz.prog "strconv.ErrRange" = some #[.iface 87 (.pointer (some x))]) (hsm : Hid (smallL s.data.toList = none)) (d : ByteArray) (hd : Hid (str (trimLeftS s.data.toList signs) = d)) (_h3 : decide ((d.size : Int) < (s.size : Int) - 1) = false) (r : ByteArray) (hr : Hid (str (trimLeftS d.data.toList digs) = r)) (k : Nat) (_hk : (d.size : Int) - (r.size : Int) = (k : Int)) (_hk2 : k ≤ d.size) (_hx : d.extract k d.size = r) (_ds : d.size ≤ 131072) (_rs : r.size ≤ 131072) (_k1 : decide ((1 : Int) < (k : Int)) = false) (_r1 : r.toList = []) (t : ByteArray) (ht : Hid (str (trimSuffix s.data.toList [78]) = t)) (hts : t.size ≤ 131072) (n : Int) (hp : Hid (parseIntB 64 t.data.toList = .ok n)) :
    Calls Tryz.prog 16 #[.pointer (some ⟨B, 0, none⟩)] w fun e w' => e = .returned (.tuple #[.agg #[.int .u8 2, .int .i64 line, .string ⟨#[]⟩, .int .i64 n, .bool true, .slice none 0 0], .nilIface]) ∧ Below w.heap.size w w' := by
  obtain ⟨hb, hB, hl, htk, hc, hs, hcap, h1⟩ := hc0
  have hp0 : 0 < w.heap.size := by omega
  have HW : Hid (Bytes ((w.alloc (.cells #[.int .u8 0, .int .i64 0, .string ⟨#[]⟩, .int .i64 0, .bool false, .slice none 0 0] 43)).alloc (.cells #[.int .u8 2, .int .i64 line, .string ⟨#[]⟩, .int .i64 0, .bool false, .slice none 0 0] 43)) b o s) := hideP (bytes_kept hc hb (start_below w 2 line))
  have hcv := run_convert_whole (P := Tryz.prog) _ 22 5 9 Tryz.underlying22 Tryz.underlying5 Tryz.underlying9 b o s HW.out cap
  have HC : Hid (Bytes w b o s) := hideP hc
  have HV : Hid (w.var? Tryz.prog "strconv.ErrRange" = some #[.iface 87 (.pointer (some x))]) := hideP hv
  clear hc hv
  go_enter Tryz.func16, Tryz.ntmps16
  go_wp2_with (first
    | (go_at_call 21; have _g := hb1; clear _g; refine (trimLeft_digs d _).mono ?_; rintro e w2 ⟨rfl, hb2'⟩; have hb2 := step_kept hb1 hb2'; clear hb2'; rw [hr.out])
    | (go_at_call 20; refine (small_no s b o cap _ hs hcap HW.out h1 hsm.out).mono ?_; rintro e w' ⟨rfl, hw⟩; have hw2 := hw.symm; subst hw2)
    | (go_at_call 21; refine (trimLeft_signs s _).mono ?_; rintro e w1 ⟨rfl, hb1'⟩; have hb1 : Below (start w 2 line).heap.size (start w 2 line) w1 := hb1'; clear hb1'; rw [hd.out])
    | (go_at_call 23; refine (trimSuffix_N s _ hs).mono ?_; rintro e w' ⟨rfl, hw⟩; have hw2 := hw.symm; subst hw2; rw [ht.out])
    | (go_at_call 22; refine (parse_ok t n _ hts hp.out).mono ?_; rintro e w3 ⟨rfl, hb3'⟩; have hb3 := step_kept hb2 hb3'; clear hb3'; obtain ⟨⟨p0, p1, p2, p3, p4, p5⟩, q0, q1, q2, q3, q4, q5⟩ := first_kept hb3; obtain ⟨⟨u0, u1, u2, u3, u4, u5⟩, v0, v1, v2, v3, v4, v5⟩ := second_kept hb3)
    )
  (try simp only [Exit.inBlock, Exit.then])
  refine bodyPost_ret (by simp [results, Tryz.results16, go_sem, p0, p1, p2, p3, p4, p5]; try rfl) rfl ?_
  refine ⟨rfl, ?_⟩
  repeat (refine Below.setCell ?_ (by first | exact Nat.le_refl _ | exact Nat.le_add_right _ _) _)
  exact start_kept hb3

set_option maxHeartbeats 1000000 in
theorem num_weR (B b o cap : Nat) (line : Int) (s : ByteArray) (x : Addr) (w : World) (hc0 : Came w B b o cap line s) (hv : w.var? Tryz.prog "strconv.ErrRange" = some #[.iface 87 (.pointer (some x))]) (hsm : Hid (smallL s.data.toList = none)) (d : ByteArray) (hd : Hid (str (trimLeftS s.data.toList signs) = d)) (_h3 : decide ((d.size : Int) < (s.size : Int) - 1) = false) (r : ByteArray) (hr : Hid (str (trimLeftS d.data.toList digs) = r)) (k : Nat) (_hk : (d.size : Int) - (r.size : Int) = (k : Int)) (_hk2 : k ≤ d.size) (_hx : d.extract k d.size = r) (_ds : d.size ≤ 131072) (_rs : r.size ≤ 131072) (_k1 : decide ((1 : Int) < (k : Int)) = false) (_r1 : r.toList = []) (t : ByteArray) (ht : Hid (str (trimSuffix s.data.toList [78]) = t)) (hts : t.size ≤ 131072) (hp : Hid (parseIntB 64 t.data.toList = .range)) :
    Calls Tryz.prog 16 #[.pointer (some ⟨B, 0, none⟩)] w fun e w' => e = .returned (.tuple #[.agg #[.int .u8 2, .int .i64 line, .string s, .int .i64 0, .bool false, .slice none 0 0], .nilIface]) ∧ Below w.heap.size w w' := by
  obtain ⟨hb, hB, hl, htk, hc, hs, hcap, h1⟩ := hc0
  have hp0 : 0 < w.heap.size := by omega
  have HW : Hid (Bytes ((w.alloc (.cells #[.int .u8 0, .int .i64 0, .string ⟨#[]⟩, .int .i64 0, .bool false, .slice none 0 0] 43)).alloc (.cells #[.int .u8 2, .int .i64 line, .string ⟨#[]⟩, .int .i64 0, .bool false, .slice none 0 0] 43)) b o s) := hideP (bytes_kept hc hb (start_below w 2 line))
  have hcv := run_convert_whole (P := Tryz.prog) _ 22 5 9 Tryz.underlying22 Tryz.underlying5 Tryz.underlying9 b o s HW.out cap
  have HC : Hid (Bytes w b o s) := hideP hc
  have HV : Hid (w.var? Tryz.prog "strconv.ErrRange" = some #[.iface 87 (.pointer (some x))]) := hideP hv
  clear hc hv
  go_enter Tryz.func16, Tryz.ntmps16
  go_wp2_with (first
    | (go_at_call 21; have _g := hb1; clear _g; refine (trimLeft_digs d _).mono ?_; rintro e w2 ⟨rfl, hb2'⟩; have hb2 := step_kept hb1 hb2'; clear hb2'; rw [hr.out])
    | (go_at_call 20; refine (small_no s b o cap _ hs hcap HW.out h1 hsm.out).mono ?_; rintro e w' ⟨rfl, hw⟩; have hw2 := hw.symm; subst hw2)
    | (go_at_call 21; refine (trimLeft_signs s _).mono ?_; rintro e w1 ⟨rfl, hb1'⟩; have hb1 : Below (start w 2 line).heap.size (start w 2 line) w1 := hb1'; clear hb1'; rw [hd.out])
    | (go_at_call 23; refine (trimSuffix_N s _ hs).mono ?_; rintro e w' ⟨rfl, hw⟩; have hw2 := hw.symm; subst hw2; rw [ht.out])
    | (go_at_call 22; refine (parse_range t x _ hts hp.out (var_kept hp0 HV.out (start_kept hb2))).mono ?_; rintro e w3 ⟨N, n, rfl, hN, hb3'⟩; have hb3 := step_kept hb2 hb3'; clear hb3'; have hg3 := var_cell (var_kept hp0 HV.out (start_kept hb3)); obtain ⟨⟨p0, p1, p2, p3, p4, p5⟩, q0, q1, q2, q3, q4, q5⟩ := first_kept hb3; obtain ⟨⟨u0, u1, u2, u3, u4, u5⟩, v0, v1, v2, v3, v4, v5⟩ := second_kept hb3)
    | (go_at_call 24; refine (is_wrap_same N 0 x _ hN).mono ?_; rintro e w' ⟨rfl, hw⟩; have hw2 := hw.symm; subst hw2)
    )
  (try simp only [Exit.inBlock, Exit.then])
  refine bodyPost_ret (by simp [results, Tryz.results16, go_sem, p0, p1, p2, p3, p4, p5]; try rfl) rfl ?_
  refine ⟨rfl, ?_⟩
  repeat (refine Below.setCell ?_ (by first | exact Nat.le_refl _ | exact Nat.le_add_right _ _) _)
  exact start_kept hb3

set_option maxHeartbeats 1000000 in
theorem num_wnO (B b o cap : Nat) (line : Int) (s : ByteArray) (x : Addr) (w : World) (hc0 : Came w B b o cap line s) (hv : w.var? Tryz.prog "strconv.ErrRange" = some #[.iface 87 (.pointer (some x))]) (hsm : Hid (smallL s.data.toList = none)) (d : ByteArray) (hd : Hid (str (trimLeftS s.data.toList signs) = d)) (_h3 : decide ((d.size : Int) < (s.size : Int) - 1) = false) (r : ByteArray) (hr : Hid (str (trimLeftS d.data.toList digs) = r)) (k : Nat) (_hk : (d.size : Int) - (r.size : Int) = (k : Int)) (_hk2 : k ≤ d.size) (_hx : d.extract k d.size = r) (_ds : d.size ≤ 131072) (_rs : r.size ≤ 131072) (_k1 : decide ((1 : Int) < (k : Int)) = false) (_r1 : r.toList = [78]) (t : ByteArray) (ht : Hid (str (trimSuffix s.data.toList [78]) = t)) (hts : t.size ≤ 131072) (n : Int) (hp : Hid (parseIntB 64 t.data.toList = .ok n)) :
    Calls Tryz.prog 16 #[.pointer (some ⟨B, 0, none⟩)] w fun e w' => e = .returned (.tuple #[.agg #[.int .u8 2, .int .i64 line, .string ⟨#[]⟩, .int .i64 n, .bool true, .slice none 0 0], .nilIface]) ∧ Below w.heap.size w w' := by
  obtain ⟨hb, hB, hl, htk, hc, hs, hcap, h1⟩ := hc0
  have hp0 : 0 < w.heap.size := by omega
  have HW : Hid (Bytes ((w.alloc (.cells #[.int .u8 0, .int .i64 0, .string ⟨#[]⟩, .int .i64 0, .bool false, .slice none 0 0] 43)).alloc (.cells #[.int .u8 2, .int .i64 line, .string ⟨#[]⟩, .int .i64 0, .bool false, .slice none 0 0] 43)) b o s) := hideP (bytes_kept hc hb (start_below w 2 line))
  have hcv := run_convert_whole (P := Tryz.prog) _ 22 5 9 Tryz.underlying22 Tryz.underlying5 Tryz.underlying9 b o s HW.out cap
  have HC : Hid (Bytes w b o s) := hideP hc
  have HV : Hid (w.var? Tryz.prog "strconv.ErrRange" = some #[.iface 87 (.pointer (some x))]) := hideP hv
  clear hc hv
  go_enter Tryz.func16, Tryz.ntmps16
  go_wp2_with (first
    | (go_at_call 21; have _g := hb1; clear _g; refine (trimLeft_digs d _).mono ?_; rintro e w2 ⟨rfl, hb2'⟩; have hb2 := step_kept hb1 hb2'; clear hb2'; rw [hr.out])
    | (go_at_call 20; refine (small_no s b o cap _ hs hcap HW.out h1 hsm.out).mono ?_; rintro e w' ⟨rfl, hw⟩; have hw2 := hw.symm; subst hw2)
    | (go_at_call 21; refine (trimLeft_signs s _).mono ?_; rintro e w1 ⟨rfl, hb1'⟩; have hb1 : Below (start w 2 line).heap.size (start w 2 line) w1 := hb1'; clear hb1'; rw [hd.out])
    | (go_at_call 23; refine (trimSuffix_N s _ hs).mono ?_; rintro e w' ⟨rfl, hw⟩; have hw2 := hw.symm; subst hw2; rw [ht.out])
    | (go_at_call 22; refine (parse_ok t n _ hts hp.out).mono ?_; rintro e w3 ⟨rfl, hb3'⟩; have hb3 := step_kept hb2 hb3'; clear hb3'; obtain ⟨⟨p0, p1, p2, p3, p4, p5⟩, q0, q1, q2, q3, q4, q5⟩ := first_kept hb3; obtain ⟨⟨u0, u1, u2, u3, u4, u5⟩, v0, v1, v2, v3, v4, v5⟩ := second_kept hb3)
    )
  (try simp only [Exit.inBlock, Exit.then])
  refine bodyPost_ret (by simp [results, Tryz.results16, go_sem, p0, p1, p2, p3, p4, p5]; try rfl) rfl ?_
  refine ⟨rfl, ?_⟩
  repeat (refine Below.setCell ?_ (by first | exact Nat.le_refl _ | exact Nat.le_add_right _ _) _)
  exact start_kept hb3

set_option maxHeartbeats 1000000 in
theorem num_wnR (B b o cap : Nat) (line : Int) (s : ByteArray) (x : Addr) (w : World) (hc0 : Came w B b o cap line s) (hv : w.var? Tryz.prog "strconv.ErrRange" = some #[.iface 87 (.pointer (some x))]) (hsm : Hid (smallL s.data.toList = none)) (d : ByteArray) (hd : Hid (str (trimLeftS s.data.toList signs) = d)) (_h3 : decide ((d.size : Int) < (s.size : Int) - 1) = false) (r : ByteArray) (hr : Hid (str (trimLeftS d.data.toList digs) = r)) (k : Nat) (_hk : (d.size : Int) - (r.size : Int) = (k : Int)) (_hk2 : k ≤ d.size) (_hx : d.extract k d.size = r) (_ds : d.size ≤ 131072) (_rs : r.size ≤ 131072) (_k1 : decide ((1 : Int) < (k : Int)) = false) (_r1 : r.toList = [78]) (t : ByteArray) (ht : Hid (str (trimSuffix s.data.toList [78]) = t)) (hts : t.size ≤ 131072) (hp : Hid (parseIntB 64 t.data.toList = .range)) :
    Calls Tryz.prog 16 #[.pointer (some ⟨B, 0, none⟩)] w fun e w' => e = .returned (.tuple #[.agg #[.int .u8 2, .int .i64 line, .string s, .int .i64 0, .bool false, .slice none 0 0], .nilIface]) ∧ Below w.heap.size w w' := by
  obtain ⟨hb, hB, hl, htk, hc, hs, hcap, h1⟩ := hc0
  have hp0 : 0 < w.heap.size := by omega
  have HW : Hid (Bytes ((w.alloc (.cells #[.int .u8 0, .int .i64 0, .string ⟨#[]⟩, .int .i64 0, .bool false, .slice none 0 0] 43)).alloc (.cells #[.int .u8 2, .int .i64 line, .string ⟨#[]⟩, .int .i64 0, .bool false, .slice none 0 0] 43)) b o s) := hideP (bytes_kept hc hb (start_below w 2 line))
  have hcv := run_convert_whole (P := Tryz.prog) _ 22 5 9 Tryz.underlying22 Tryz.underlying5 Tryz.underlying9 b o s HW.out cap
  have HC : Hid (Bytes w b o s) := hideP hc
  have HV : Hid (w.var? Tryz.prog "strconv.ErrRange" = some #[.iface 87 (.pointer (some x))]) := hideP hv
  clear hc hv
  go_enter Tryz.func16, Tryz.ntmps16
  go_wp2_with (first
    | (go_at_call 21; have _g := hb1; clear _g; refine (trimLeft_digs d _).mono ?_; rintro e w2 ⟨rfl, hb2'⟩; have hb2 := step_kept hb1 hb2'; clear hb2'; rw [hr.out])
    | (go_at_call 20; refine (small_no s b o cap _ hs hcap HW.out h1 hsm.out).mono ?_; rintro e w' ⟨rfl, hw⟩; have hw2 := hw.symm; subst hw2)
    | (go_at_call 21; refine (trimLeft_signs s _).mono ?_; rintro e w1 ⟨rfl, hb1'⟩; have hb1 : Below (start w 2 line).heap.size (start w 2 line) w1 := hb1'; clear hb1'; rw [hd.out])
    | (go_at_call 23; refine (trimSuffix_N s _ hs).mono ?_; rintro e w' ⟨rfl, hw⟩; have hw2 := hw.symm; subst hw2; rw [ht.out])
    | (go_at_call 22; refine (parse_range t x _ hts hp.out (var_kept hp0 HV.out (start_kept hb2))).mono ?_; rintro e w3 ⟨N, n, rfl, hN, hb3'⟩; have hb3 := step_kept hb2 hb3'; clear hb3'; have hg3 := var_cell (var_kept hp0 HV.out (start_kept hb3)); obtain ⟨⟨p0, p1, p2, p3, p4, p5⟩, q0, q1, q2, q3, q4, q5⟩ := first_kept hb3; obtain ⟨⟨u0, u1, u2, u3, u4, u5⟩, v0, v1, v2, v3, v4, v5⟩ := second_kept hb3)
    | (go_at_call 24; refine (is_wrap_same N 0 x _ hN).mono ?_; rintro e w' ⟨rfl, hw⟩; have hw2 := hw.symm; subst hw2)
    )
  (try simp only [Exit.inBlock, Exit.then])
  refine bodyPost_ret (by simp [results, Tryz.results16, go_sem, p0, p1, p2, p3, p4, p5]; try rfl) rfl ?_
  refine ⟨rfl, ?_⟩
  repeat (refine Below.setCell ?_ (by first | exact Nat.le_refl _ | exact Nat.le_add_right _ _) _)
  exact start_kept hb3

set_option maxHeartbeats 1000000 in
theorem num_wsT (B b o cap : Nat) (line : Int) (s : ByteArray) (x : Addr) (w : World) (hc0 : Came w B b o cap line s) (hv : w.var? Tryz.prog "strconv.ErrRange" = some #[.iface 87 (.pointer (some x))]) (hsm : Hid (smallL s.data.toList = none)) (d : ByteArray) (hd : Hid (str (trimLeftS s.data.toList signs) = d)) (_h3 : decide ((d.size : Int) < (s.size : Int) - 1) = false) (r : ByteArray) (hr : Hid (str (trimLeftS d.data.toList digs) = r)) (k : Nat) (_hk : (d.size : Int) - (r.size : Int) = (k : Int)) (_hk2 : k ≤ d.size) (_hx : d.extract k d.size = r) (_ds : d.size ≤ 131072) (_rs : r.size ≤ 131072) (_k1 : decide ((1 : Int) < (k : Int)) = false) (_r1 : ¬ r.toList = []) (_r2 : ¬ r.toList = [78]) (_r3 : r.toList.isEmpty = false) (_r4 : (r.toList == [78]) = false) (_r0 : 0 < r.size) (_s1 : (r[0].toNat : Int) = 47) (_s2 : (1 : Int) < r.size) (_s3 : 1 < r.size) (m : ByteArray) (hm : Hid (str (trimS (r.extract 1 r.size).data.toList digs) = m)) (_s4 : m.toList = []) :
    Calls Tryz.prog 16 #[.pointer (some ⟨B, 0, none⟩)] w fun e w' => e = .returned (.tuple #[.agg #[.int .u8 3, .int .i64 line, .string s, .int .i64 0, .bool false, .slice none 0 0], .nilIface]) ∧ Below w.heap.size w w' := by
  obtain ⟨hb, hB, hl, htk, hc, hs, hcap, h1⟩ := hc0
  have hp0 : 0 < w.heap.size := by omega
  have HW : Hid (Bytes ((w.alloc (.cells #[.int .u8 0, .int .i64 0, .string ⟨#[]⟩, .int .i64 0, .bool false, .slice none 0 0] 43)).alloc (.cells #[.int .u8 2, .int .i64 line, .string ⟨#[]⟩, .int .i64 0, .bool false, .slice none 0 0] 43)) b o s) := hideP (bytes_kept hc hb (start_below w 2 line))
  have hcv := run_convert_whole (P := Tryz.prog) _ 22 5 9 Tryz.underlying22 Tryz.underlying5 Tryz.underlying9 b o s HW.out cap
  have HC : Hid (Bytes w b o s) := hideP hc
  have HV : Hid (w.var? Tryz.prog "strconv.ErrRange" = some #[.iface 87 (.pointer (some x))]) := hideP hv
  clear hc hv
  go_enter Tryz.func16, Tryz.ntmps16
  go_wp2_with (first
    | (go_at_call 21; have _g := hb1; clear _g; refine (trimLeft_digs d _).mono ?_; rintro e w2 ⟨rfl, hb2'⟩; have hb2 := step_kept hb1 hb2'; clear hb2'; rw [hr.out])
    | (go_at_call 20; refine (small_no s b o cap _ hs hcap HW.out h1 hsm.out).mono ?_; rintro e w' ⟨rfl, hw⟩; have hw2 := hw.symm; subst hw2)
    | (go_at_call 21; refine (trimLeft_signs s _).mono ?_; rintro e w1 ⟨rfl, hb1'⟩; have hb1 : Below (start w 2 line).heap.size (start w 2 line) w1 := hb1'; clear hb1'; rw [hd.out])
    | (go_at_call 25; refine (trim_digs _ _ (by simp only [ByteArray.size_extract]; omega)).mono ?_; rintro e w3 ⟨rfl, hb3'⟩; have hb3 := step_kept hb2 hb3'; clear hb3'; rw [hm.out]; obtain ⟨⟨p0, p1, p2, p3, p4, p5⟩, q0, q1, q2, q3, q4, q5⟩ := first_kept hb3; obtain ⟨⟨u0, u1, u2, u3, u4, u5⟩, v0, v1, v2, v3, v4, v5⟩ := second_kept hb3)
    )
  (try simp only [Exit.inBlock, Exit.then])
  refine bodyPost_ret (by simp [results, Tryz.results16, go_sem, p0, p1, p2, p3, p4, p5]; try rfl) rfl ?_
  refine ⟨rfl, ?_⟩
  repeat (refine Below.setCell ?_ (by first | exact Nat.le_refl _ | exact Nat.le_add_right _ _) _)
  exact start_kept hb3

set_option maxHeartbeats 1000000 in
theorem num_waT (B b o cap : Nat) (line : Int) (s : ByteArray) (x : Addr) (w : World) (hc0 : Came w B b o cap line s) (hv : w.var? Tryz.prog "strconv.ErrRange" = some #[.iface 87 (.pointer (some x))]) (hsm : Hid (smallL s.data.toList = none)) (d : ByteArray) (hd : Hid (str (trimLeftS s.data.toList signs) = d)) (_h3 : decide ((d.size : Int) < (s.size : Int) - 1) = false) (r : ByteArray) (hr : Hid (str (trimLeftS d.data.toList digs) = r)) (k : Nat) (_hk : (d.size : Int) - (r.size : Int) = (k : Int)) (_hk2 : k ≤ d.size) (_hx : d.extract k d.size = r) (_ds : d.size ≤ 131072) (_rs : r.size ≤ 131072) (_k1 : decide ((1 : Int) < (k : Int)) = false) (_r1 : ¬ r.toList = []) (_r2 : ¬ r.toList = [78]) (_r3 : r.toList.isEmpty = false) (_r4 : (r.toList == [78]) = false) (_r0 : 0 < r.size) (_s1 : ¬ (r[0].toNat : Int) = 47) (_s2 : ((r[0].toNat : Int) == 47) = false) (hf : Hid (floatL r.data.toList = true)) :
    Calls Tryz.prog 16 #[.pointer (some ⟨B, 0, none⟩)] w fun e w' => e = .returned (.tuple #[.agg #[.int .u8 3, .int .i64 line, .string s, .int .i64 0, .bool false, .slice none 0 0], .nilIface]) ∧ Below w.heap.size w w' := by
  obtain ⟨hb, hB, hl, htk, hc, hs, hcap, h1⟩ := hc0
  have hp0 : 0 < w.heap.size := by omega
  have HW : Hid (Bytes ((w.alloc (.cells #[.int .u8 0, .int .i64 0, .string ⟨#[]⟩, .int .i64 0, .bool false, .slice none 0 0] 43)).alloc (.cells #[.int .u8 2, .int .i64 line, .string ⟨#[]⟩, .int .i64 0, .bool false, .slice none 0 0] 43)) b o s) := hideP (bytes_kept hc hb (start_below w 2 line))
  have hcv := run_convert_whole (P := Tryz.prog) _ 22 5 9 Tryz.underlying22 Tryz.underlying5 Tryz.underlying9 b o s HW.out cap
  have HC : Hid (Bytes w b o s) := hideP hc
  have HV : Hid (w.var? Tryz.prog "strconv.ErrRange" = some #[.iface 87 (.pointer (some x))]) := hideP hv
  clear hc hv
  go_enter Tryz.func16, Tryz.ntmps16
  go_wp2_with (first
    | (go_at_call 21; have _g := hb1; clear _g; refine (trimLeft_digs d _).mono ?_; rintro e w2 ⟨rfl, hb2'⟩; have hb2 := step_kept hb1 hb2'; clear hb2'; rw [hr.out])
    | (go_at_call 20; refine (small_no s b o cap _ hs hcap HW.out h1 hsm.out).mono ?_; rintro e w' ⟨rfl, hw⟩; have hw2 := hw.symm; subst hw2)
    | (go_at_call 21; refine (trimLeft_signs s _).mono ?_; rintro e w1 ⟨rfl, hb1'⟩; have hb1 : Below (start w 2 line).heap.size (start w 2 line) w1 := hb1'; clear hb1'; rw [hd.out])
    | (go_at_call 26; refine (float_any r _ (by omega)).mono ?_; rintro e w4 ⟨rfl, hb4'⟩; have hb4 := step_kept hb2 hb4'; clear hb4'; rw [hf.out]; obtain ⟨⟨p0, p1, p2, p3, p4, p5⟩, q0, q1, q2, q3, q4, q5⟩ := first_kept hb4; obtain ⟨⟨u0, u1, u2, u3, u4, u5⟩, v0, v1, v2, v3, v4, v5⟩ := second_kept hb4)
    )
  (try simp only [Exit.inBlock, Exit.then])
  refine bodyPost_ret (by simp [results, Tryz.results16, go_sem, p0, p1, p2, p3, p4, p5]; try rfl) rfl ?_
  refine ⟨rfl, ?_⟩
  repeat (refine Below.setCell ?_ (by first | exact Nat.le_refl _ | exact Nat.le_add_right _ _) _)
  exact start_kept hb4

set_option maxHeartbeats 1000000 in
theorem num_waF (B b o cap : Nat) (line : Int) (s : ByteArray) (x : Addr) (w : World) (hc0 : Came w B b o cap line s) (hv : w.var? Tryz.prog "strconv.ErrRange" = some #[.iface 87 (.pointer (some x))]) (hsm : Hid (smallL s.data.toList = none)) (d : ByteArray) (hd : Hid (str (trimLeftS s.data.toList signs) = d)) (_h3 : decide ((d.size : Int) < (s.size : Int) - 1) = false) (r : ByteArray) (hr : Hid (str (trimLeftS d.data.toList digs) = r)) (k : Nat) (_hk : (d.size : Int) - (r.size : Int) = (k : Int)) (_hk2 : k ≤ d.size) (_hx : d.extract k d.size = r) (_ds : d.size ≤ 131072) (_rs : r.size ≤ 131072) (_k1 : decide ((1 : Int) < (k : Int)) = false) (_r1 : ¬ r.toList = []) (_r2 : ¬ r.toList = [78]) (_r3 : r.toList.isEmpty = false) (_r4 : (r.toList == [78]) = false) (_r0 : 0 < r.size) (_s1 : ¬ (r[0].toNat : Int) = 47) (_s2 : ((r[0].toNat : Int) == 47) = false) (hf : Hid (floatL r.data.toList = false)) :
    Calls Tryz.prog 16 #[.pointer (some ⟨B, 0, none⟩)] w fun e w' => (∃ a, e = .returned (.tuple #[.agg #[.int .u8 0, .int .i64 0, .string ⟨#[]⟩, .int .i64 0, .bool false, .slice none 0 0], .iface 47 (.pointer (some a))])) ∧ Below w.heap.size w w' := by
  obtain ⟨hb, hB, hl, htk, hc, hs, hcap, h1⟩ := hc0
  have hp0 : 0 < w.heap.size := by omega
  have HW : Hid (Bytes ((w.alloc (.cells #[.int .u8 0, .int .i64 0, .string ⟨#[]⟩, .int .i64 0, .bool false, .slice none 0 0] 43)).alloc (.cells #[.int .u8 2, .int .i64 line, .string ⟨#[]⟩, .int .i64 0, .bool false, .slice none 0 0] 43)) b o s) := hideP (bytes_kept hc hb (start_below w 2 line))
  have hcv := run_convert_whole (P := Tryz.prog) _ 22 5 9 Tryz.underlying22 Tryz.underlying5 Tryz.underlying9 b o s HW.out cap
  have HC : Hid (Bytes w b o s) := hideP hc
  have HV : Hid (w.var? Tryz.prog "strconv.ErrRange" = some #[.iface 87 (.pointer (some x))]) := hideP hv
  clear hc hv
  go_enter Tryz.func16, Tryz.ntmps16
  go_wp2_with (first
    | (go_at_call 21; have _g := hb1; clear _g; refine (trimLeft_digs d _).mono ?_; rintro e w2 ⟨rfl, hb2'⟩; have hb2 := step_kept hb1 hb2'; clear hb2'; rw [hr.out])
    | (go_at_call 20; refine (small_no s b o cap _ hs hcap HW.out h1 hsm.out).mono ?_; rintro e w' ⟨rfl, hw⟩; have hw2 := hw.symm; subst hw2)
    | (go_at_call 21; refine (trimLeft_signs s _).mono ?_; rintro e w1 ⟨rfl, hb1'⟩; have hb1 : Below (start w 2 line).heap.size (start w 2 line) w1 := hb1'; clear hb1'; rw [hd.out])
    | (go_at_call 26; refine (float_any r _ (by omega)).mono ?_; rintro e w4 ⟨rfl, hb4'⟩; have hb4 := step_kept hb2 hb4'; clear hb4'; rw [hf.out]; have klw4 : w4.cell? ⟨B, 5, none⟩ = some (.int .i64 line) := by rw [(start_kept hb4).cell (p := ⟨B, 5, none⟩) hB]; exact hl)
    | (go_at_call 13; refine (err_num line s _ hs).mono ?_; rintro e w5 ⟨⟨a, rfl⟩, hb5'⟩; have hb5 := step_kept hb4 hb5'; clear hb5'; obtain ⟨⟨p0, p1, p2, p3, p4, p5⟩, q0, q1, q2, q3, q4, q5⟩ := first_kept hb5; obtain ⟨⟨u0, u1, u2, u3, u4, u5⟩, v0, v1, v2, v3, v4, v5⟩ := second_kept hb5)
    )
  (try simp only [Exit.inBlock, Exit.then])
  refine bodyPost_ret (by simp [results, Tryz.results16, go_sem, p0, p1, p2, p3, p4, p5]; try rfl) rfl ?_
  refine ⟨⟨a, rfl⟩, ?_⟩
  repeat (refine Below.setCell ?_ (by first | exact Nat.le_refl _ | exact Nat.le_add_right _ _) _)
  exact start_kept hb5

set_option maxHeartbeats 1000000 in
theorem num_wbT (B b o cap : Nat) (line : Int) (s : ByteArray) (x : Addr) (w : World) (hc0 : Came w B b o cap line s) (hv : w.var? Tryz.prog "strconv.ErrRange" = some #[.iface 87 (.pointer (some x))]) (hsm : Hid (smallL s.data.toList = none)) (d : ByteArray) (hd : Hid (str (trimLeftS s.data.toList signs) = d)) (_h3 : decide ((d.size : Int) < (s.size : Int) - 1) = false) (r : ByteArray) (hr : Hid (str (trimLeftS d.data.toList digs) = r)) (k : Nat) (_hk : (d.size : Int) - (r.size : Int) = (k : Int)) (_hk2 : k ≤ d.size) (_hx : d.extract k d.size = r) (_ds : d.size ≤ 131072) (_rs : r.size ≤ 131072) (_k1 : decide ((1 : Int) < (k : Int)) = false) (_r1 : ¬ r.toList = []) (_r2 : ¬ r.toList = [78]) (_r3 : r.toList.isEmpty = false) (_r4 : (r.toList == [78]) = false) (_r0 : 0 < r.size) (_s1 : (r[0].toNat : Int) = 47) (_s2 : decide ((1 : Int) < (r.size : Int)) = false) (hf : Hid (floatL r.data.toList = true)) :
    Calls Tryz.prog 16 #[.pointer (some ⟨B, 0, none⟩)] w fun e w' => e = .returned (.tuple #[.agg #[.int .u8 3, .int .i64 line, .string s, .int .i64 0, .bool false, .slice none 0 0], .nilIface]) ∧ Below w.heap.size w w' := by
  obtain ⟨hb, hB, hl, htk, hc, hs, hcap, h1⟩ := hc0
  have hp0 : 0 < w.heap.size := by omega
  have HW : Hid (Bytes ((w.alloc (.cells #[.int .u8 0, .int .i64 0, .string ⟨#[]⟩, .int .i64 0, .bool false, .slice none 0 0] 43)).alloc (.cells #[.int .u8 2, .int .i64 line, .string ⟨#[]⟩, .int .i64 0, .bool false, .slice none 0 0] 43)) b o s) := hideP (bytes_kept hc hb (start_below w 2 line))
  have hcv := run_convert_whole (P := Tryz.prog) _ 22 5 9 Tryz.underlying22 Tryz.underlying5 Tryz.underlying9 b o s HW.out cap
  have HC : Hid (Bytes w b o s) := hideP hc
  have HV : Hid (w.var? Tryz.prog "strconv.ErrRange" = some #[.iface 87 (.pointer (some x))]) := hideP hv
  clear hc hv
  go_enter Tryz.func16, Tryz.ntmps16
  go_wp2_with (first
    | (go_at_call 21; have _g := hb1; clear _g; refine (trimLeft_digs d _).mono ?_; rintro e w2 ⟨rfl, hb2'⟩; have hb2 := step_kept hb1 hb2'; clear hb2'; rw [hr.out])
    | (go_at_call 20; refine (small_no s b o cap _ hs hcap HW.out h1 hsm.out).mono ?_; rintro e w' ⟨rfl, hw⟩; have hw2 := hw.symm; subst hw2)
    | (go_at_call 21; refine (trimLeft_signs s _).mono ?_; rintro e w1 ⟨rfl, hb1'⟩; have hb1 : Below (start w 2 line).heap.size (start w 2 line) w1 := hb1'; clear hb1'; rw [hd.out])
    | (go_at_call 26; refine (float_any r _ (by omega)).mono ?_; rintro e w4 ⟨rfl, hb4'⟩; have hb4 := step_kept hb2 hb4'; clear hb4'; rw [hf.out]; obtain ⟨⟨p0, p1, p2, p3, p4, p5⟩, q0, q1, q2, q3, q4, q5⟩ := first_kept hb4; obtain ⟨⟨u0, u1, u2, u3, u4, u5⟩, v0, v1, v2, v3, v4, v5⟩ := second_kept hb4)
    )
  (try simp only [Exit.inBlock, Exit.then])
  refine bodyPost_ret (by simp [results, Tryz.results16, go_sem, p0, p1, p2, p3, p4, p5]; try rfl) rfl ?_
  refine ⟨rfl, ?_⟩
  repeat (refine Below.setCell ?_ (by first | exact Nat.le_refl _ | exact Nat.le_add_right _ _) _)
  exact start_kept hb4

set_option maxHeartbeats 1000000 in
theorem num_wbF (B b o cap : Nat) (line : Int) (s : ByteArray) (x : Addr) (w : World) (hc0 : Came w B b o cap line s) (hv : w.var? Tryz.prog "strconv.ErrRange" = some #[.iface 87 (.pointer (some x))]) (hsm : Hid (smallL s.data.toList = none)) (d : ByteArray) (hd : Hid (str (trimLeftS s.data.toList signs) = d)) (_h3 : decide ((d.size : Int) < (s.size : Int) - 1) = false) (r : ByteArray) (hr : Hid (str (trimLeftS d.data.toList digs) = r)) (k : Nat) (_hk : (d.size : Int) - (r.size : Int) = (k : Int)) (_hk2 : k ≤ d.size) (_hx : d.extract k d.size = r) (_ds : d.size ≤ 131072) (_rs : r.size ≤ 131072) (_k1 : decide ((1 : Int) < (k : Int)) = false) (_r1 : ¬ r.toList = []) (_r2 : ¬ r.toList = [78]) (_r3 : r.toList.isEmpty = false) (_r4 : (r.toList == [78]) = false) (_r0 : 0 < r.size) (_s1 : (r[0].toNat : Int) = 47) (_s2 : decide ((1 : Int) < (r.size : Int)) = false) (hf : Hid (floatL r.data.toList = false)) :
    Calls Tryz.prog 16 #[.pointer (some ⟨B, 0, none⟩)] w fun e w' => (∃ a, e = .returned (.tuple #[.agg #[.int .u8 0, .int .i64 0, .string ⟨#[]⟩, .int .i64 0, .bool false, .slice none 0 0], .iface 47 (.pointer (some a))])) ∧ Below w.heap.size w w' := by
  obtain ⟨hb, hB, hl, htk, hc, hs, hcap, h1⟩ := hc0
  have hp0 : 0 < w.heap.size := by omega
  have HW : Hid (Bytes ((w.alloc (.cells #[.int .u8 0, .int .i64 0, .string ⟨#[]⟩, .int .i64 0, .bool false, .slice none 0 0] 43)).alloc (.cells #[.int .u8 2, .int .i64 line, .string ⟨#[]⟩, .int .i64 0, .bool false, .slice none 0 0] 43)) b o s) := hideP (bytes_kept hc hb (start_below w 2 line))
  have hcv := run_convert_whole (P := Tryz.prog) _ 22 5 9 Tryz.underlying22 Tryz.underlying5 Tryz.underlying9 b o s HW.out cap
  have HC : Hid (Bytes w b o s) := hideP hc
  have HV : Hid (w.var? Tryz.prog "strconv.ErrRange" = some #[.iface 87 (.pointer (some x))]) := hideP hv
  clear hc hv
  go_enter Tryz.func16, Tryz.ntmps16
  go_wp2_with (first
    | (go_at_call 21; have _g := hb1; clear _g; refine (trimLeft_digs d _).mono ?_; rintro e w2 ⟨rfl, hb2'⟩; have hb2 := step_kept hb1 hb2'; clear hb2'; rw [hr.out])
    | (go_at_call 20; refine (small_no s b o cap _ hs hcap HW.out h1 hsm.out).mono ?_; rintro e w' ⟨rfl, hw⟩; have hw2 := hw.symm; subst hw2)
    | (go_at_call 21; refine (trimLeft_signs s _).mono ?_; rintro e w1 ⟨rfl, hb1'⟩; have hb1 : Below (start w 2 line).heap.size (start w 2 line) w1 := hb1'; clear hb1'; rw [hd.out])
    | (go_at_call 26; refine (float_any r _ (by omega)).mono ?_; rintro e w4 ⟨rfl, hb4'⟩; have hb4 := step_kept hb2 hb4'; clear hb4'; rw [hf.out]; have klw4 : w4.cell? ⟨B, 5, none⟩ = some (.int .i64 line) := by rw [(start_kept hb4).cell (p := ⟨B, 5, none⟩) hB]; exact hl)
    | (go_at_call 13; refine (err_num line s _ hs).mono ?_; rintro e w5 ⟨⟨a, rfl⟩, hb5'⟩; have hb5 := step_kept hb4 hb5'; clear hb5'; obtain ⟨⟨p0, p1, p2, p3, p4, p5⟩, q0, q1, q2, q3, q4, q5⟩ := first_kept hb5; obtain ⟨⟨u0, u1, u2, u3, u4, u5⟩, v0, v1, v2, v3, v4, v5⟩ := second_kept hb5)
    )
  (try simp only [Exit.inBlock, Exit.then])
  refine bodyPost_ret (by simp [results, Tryz.results16, go_sem, p0, p1, p2, p3, p4, p5]; try rfl) rfl ?_
  refine ⟨⟨a, rfl⟩, ?_⟩
  repeat (refine Below.setCell ?_ (by first | exact Nat.le_refl _ | exact Nat.le_add_right _ _) _)
  exact start_kept hb5

set_option maxHeartbeats 1000000 in
theorem num_wcT (B b o cap : Nat) (line : Int) (s : ByteArray) (x : Addr) (w : World) (hc0 : Came w B b o cap line s) (hv : w.var? Tryz.prog "strconv.ErrRange" = some #[.iface 87 (.pointer (some x))]) (hsm : Hid (smallL s.data.toList = none)) (d : ByteArray) (hd : Hid (str (trimLeftS s.data.toList signs) = d)) (_h3 : decide ((d.size : Int) < (s.size : Int) - 1) = false) (r : ByteArray) (hr : Hid (str (trimLeftS d.data.toList digs) = r)) (k : Nat) (_hk : (d.size : Int) - (r.size : Int) = (k : Int)) (_hk2 : k ≤ d.size) (_hx : d.extract k d.size = r) (_ds : d.size ≤ 131072) (_rs : r.size ≤ 131072) (_k1 : decide ((1 : Int) < (k : Int)) = false) (_r1 : ¬ r.toList = []) (_r2 : ¬ r.toList = [78]) (_r3 : r.toList.isEmpty = false) (_r4 : (r.toList == [78]) = false) (_r0 : 0 < r.size) (_s1 : (r[0].toNat : Int) = 47) (_s2 : (1 : Int) < r.size) (_s3 : 1 < r.size) (m : ByteArray) (hm : Hid (str (trimS (r.extract 1 r.size).data.toList digs) = m)) (_s4 : ¬ m.toList = []) (_s5 : m.toList.isEmpty = false) (hf : Hid (floatL r.data.toList = true)) :
    Calls Tryz.prog 16 #[.pointer (some ⟨B, 0, none⟩)] w fun e w' => e = .returned (.tuple #[.agg #[.int .u8 3, .int .i64 line, .string s, .int .i64 0, .bool false, .slice none 0 0], .nilIface]) ∧ Below w.heap.size w w' := by
  obtain ⟨hb, hB, hl, htk, hc, hs, hcap, h1⟩ := hc0
  have hp0 : 0 < w.heap.size := by omega
  have HW : Hid (Bytes ((w.alloc (.cells #[.int .u8 0, .int .i64 0, .string ⟨#[]⟩, .int .i64 0, .bool false, .slice none 0 0] 43)).alloc (.cells #[.int .u8 2, .int .i64 line, .string ⟨#[]⟩, .int .i64 0, .bool false, .slice none 0 0] 43)) b o s) := hideP (bytes_kept hc hb (start_below w 2 line))
  have hcv := run_convert_whole (P := Tryz.prog) _ 22 5 9 Tryz.underlying22 Tryz.underlying5 Tryz.underlying9 b o s HW.out cap
  have HC : Hid (Bytes w b o s) := hideP hc
  have HV : Hid (w.var? Tryz.prog "strconv.ErrRange" = some #[.iface 87 (.pointer (some x))]) := hideP hv
  clear hc hv
  go_enter Tryz.func16, Tryz.ntmps16
  go_wp2_with (first
    | (go_at_call 21; have _g := hb1; clear _g; refine (trimLeft_digs d _).mono ?_; rintro e w2 ⟨rfl, hb2'⟩; have hb2 := step_kept hb1 hb2'; clear hb2'; rw [hr.out])
    | (go_at_call 20; refine (small_no s b o cap _ hs hcap HW.out h1 hsm.out).mono ?_; rintro e w' ⟨rfl, hw⟩; have hw2 := hw.symm; subst hw2)
    | (go_at_call 21; refine (trimLeft_signs s _).mono ?_; rintro e w1 ⟨rfl, hb1'⟩; have hb1 : Below (start w 2 line).heap.size (start w 2 line) w1 := hb1'; clear hb1'; rw [hd.out])
    | (go_at_call 25; refine (trim_digs _ _ (by simp only [ByteArray.size_extract]; omega)).mono ?_; rintro e w3 ⟨rfl, hb3'⟩; have hb3 := step_kept hb2 hb3'; clear hb3'; rw [hm.out])
    | (go_at_call 26; refine (float_any r _ (by omega)).mono ?_; rintro e w4 ⟨rfl, hb4'⟩; have hb4 := step_kept hb3 hb4'; clear hb4'; rw [hf.out]; obtain ⟨⟨p0, p1, p2, p3, p4, p5⟩, q0, q1, q2, q3, q4, q5⟩ := first_kept hb4; obtain ⟨⟨u0, u1, u2, u3, u4, u5⟩, v0, v1, v2, v3, v4, v5⟩ := second_kept hb4)
    )
  (try simp only [Exit.inBlock, Exit.then])
  refine bodyPost_ret (by simp [results, Tryz.results16, go_sem, p0, p1, p2, p3, p4, p5]; try rfl) rfl ?_
  refine ⟨rfl, ?_⟩
  repeat (refine Below.setCell ?_ (by first | exact Nat.le_refl _ | exact Nat.le_add_right _ _) _)
  exact start_kept hb4

set_option maxHeartbeats 1000000 in
theorem num_wcF (B b o cap : Nat) (line : Int) (s : ByteArray) (x : Addr) (w : World) (hc0 : Came w B b o cap line s) (hv : w.var? Tryz.prog "strconv.ErrRange" = some #[.iface 87 (.pointer (some x))]) (hsm : Hid (smallL s.data.toList = none)) (d : ByteArray) (hd : Hid (str (trimLeftS s.data.toList signs) = d)) (_h3 : decide ((d.size : Int) < (s.size : Int) - 1) = false) (r : ByteArray) (hr : Hid (str (trimLeftS d.data.toList digs) = r)) (k : Nat) (_hk : (d.size : Int) - (r.size : Int) = (k : Int)) (_hk2 : k ≤ d.size) (_hx : d.extract k d.size = r) (_ds : d.size ≤ 131072) (_rs : r.size ≤ 131072) (_k1 : decide ((1 : Int) < (k : Int)) = false) (_r1 : ¬ r.toList = []) (_r2 : ¬ r.toList = [78]) (_r3 : r.toList.isEmpty = false) (_r4 : (r.toList == [78]) = false) (_r0 : 0 < r.size) (_s1 : (r[0].toNat : Int) = 47) (_s2 : (1 : Int) < r.size) (_s3 : 1 < r.size) (m : ByteArray) (hm : Hid (str (trimS (r.extract 1 r.size).data.toList digs) = m)) (_s4 : ¬ m.toList = []) (_s5 : m.toList.isEmpty = false) (hf : Hid (floatL r.data.toList = false)) :
    Calls Tryz.prog 16 #[.pointer (some ⟨B, 0, none⟩)] w fun e w' => (∃ a, e = .returned (.tuple #[.agg #[.int .u8 0, .int .i64 0, .string ⟨#[]⟩, .int .i64 0, .bool false, .slice none 0 0], .iface 47 (.pointer (some a))])) ∧ Below w.heap.size w w' := by
  obtain ⟨hb, hB, hl, htk, hc, hs, hcap, h1⟩ := hc0
  have hp0 : 0 < w.heap.size := by omega
  have HW : Hid (Bytes ((w.alloc (.cells #[.int .u8 0, .int .i64 0, .string ⟨#[]⟩, .int .i64 0, .bool false, .slice none 0 0] 43)).alloc (.cells #[.int .u8 2, .int .i64 line, .string ⟨#[]⟩, .int .i64 0, .bool false, .slice none 0 0] 43)) b o s) := hideP (bytes_kept hc hb (start_below w 2 line))
  have hcv := run_convert_whole (P := Tryz.prog) _ 22 5 9 Tryz.underlying22 Tryz.underlying5 Tryz.underlying9 b o s HW.out cap
  have HC : Hid (Bytes w b o s) := hideP hc
  have HV : Hid (w.var? Tryz.prog "strconv.ErrRange" = some #[.iface 87 (.pointer (some x))]) := hideP hv
  clear hc hv
  go_enter Tryz.func16, Tryz.ntmps16
  go_wp2_with (first
    | (go_at_call 21; have _g := hb1; clear _g; refine (trimLeft_digs d _).mono ?_; rintro e w2 ⟨rfl, hb2'⟩; have hb2 := step_kept hb1 hb2'; clear hb2'; rw [hr.out])
    | (go_at_call 20; refine (small_no s b o cap _ hs hcap HW.out h1 hsm.out).mono ?_; rintro e w' ⟨rfl, hw⟩; have hw2 := hw.symm; subst hw2)
    | (go_at_call 21; refine (trimLeft_signs s _).mono ?_; rintro e w1 ⟨rfl, hb1'⟩; have hb1 : Below (start w 2 line).heap.size (start w 2 line) w1 := hb1'; clear hb1'; rw [hd.out])
    | (go_at_call 25; refine (trim_digs _ _ (by simp only [ByteArray.size_extract]; omega)).mono ?_; rintro e w3 ⟨rfl, hb3'⟩; have hb3 := step_kept hb2 hb3'; clear hb3'; rw [hm.out])
    | (go_at_call 26; refine (float_any r _ (by omega)).mono ?_; rintro e w4 ⟨rfl, hb4'⟩; have hb4 := step_kept hb3 hb4'; clear hb4'; rw [hf.out]; have klw4 : w4.cell? ⟨B, 5, none⟩ = some (.int .i64 line) := by rw [(start_kept hb4).cell (p := ⟨B, 5, none⟩) hB]; exact hl)
    | (go_at_call 13; refine (err_num line s _ hs).mono ?_; rintro e w5 ⟨⟨a, rfl⟩, hb5'⟩; have hb5 := step_kept hb4 hb5'; clear hb5'; obtain ⟨⟨p0, p1, p2, p3, p4, p5⟩, q0, q1, q2, q3, q4, q5⟩ := first_kept hb5; obtain ⟨⟨u0, u1, u2, u3, u4, u5⟩, v0, v1, v2, v3, v4, v5⟩ := second_kept hb5)
    )
  (try simp only [Exit.inBlock, Exit.then])
  refine bodyPost_ret (by simp [results, Tryz.results16, go_sem, p0, p1, p2, p3, p4, p5]; try rfl) rfl ?_
  refine ⟨⟨a, rfl⟩, ?_⟩
  repeat (refine Below.setCell ?_ (by first | exact Nat.le_refl _ | exact Nat.le_add_right _ _) _)
  exact start_kept hb5

set_option maxHeartbeats 1000000 in
theorem num_zeO (B b o cap : Nat) (line : Int) (s : ByteArray) (x : Addr) (w : World) (hc0 : Came w B b o cap line s) (hv : w.var? Tryz.prog "strconv.ErrRange" = some #[.iface 87 (.pointer (some x))]) (hsm : Hid (smallL s.data.toList = none)) (d : ByteArray) (hd : Hid (str (trimLeftS s.data.toList signs) = d)) (_h3 : decide ((d.size : Int) < (s.size : Int) - 1) = false) (r : ByteArray) (hr : Hid (str (trimLeftS d.data.toList digs) = r)) (k : Nat) (_hk : (d.size : Int) - (r.size : Int) = (k : Int)) (_hk2 : k ≤ d.size) (_hx : d.extract k d.size = r) (_ds : d.size ≤ 131072) (_rs : r.size ≤ 131072) (_k1 : (1 : Int) < (k : Int)) (_k3 : 1 < k) (_k0 : 0 < d.size) (_k2 : ¬ (d[0].toNat : Int) = 48) (_k4 : ((d[0].toNat : Int) == 48) = false) (_r1 : r.toList = []) (t : ByteArray) (ht : Hid (str (trimSuffix s.data.toList [78]) = t)) (hts : t.size ≤ 131072) (n : Int) (hp : Hid (parseIntB 64 t.data.toList = .ok n)) :
    Calls Tryz.prog 16 #[.pointer (some ⟨B, 0, none⟩)] w fun e w' => e = .returned (.tuple #[.agg #[.int .u8 2, .int .i64 line, .string ⟨#[]⟩, .int .i64 n, .bool true, .slice none 0 0], .nilIface]) ∧ Below w.heap.size w w' := by
  obtain ⟨hb, hB, hl, htk, hc, hs, hcap, h1⟩ := hc0
  have hp0 : 0 < w.heap.size := by omega
  have HW : Hid (Bytes ((w.alloc (.cells #[.int .u8 0, .int .i64 0, .string ⟨#[]⟩, .int .i64 0, .bool false, .slice none 0 0] 43)).alloc (.cells #[.int .u8 2, .int .i64 line, .string ⟨#[]⟩, .int .i64 0, .bool false, .slice none 0 0] 43)) b o s) := hideP (bytes_kept hc hb (start_below w 2 line))
  have hcv := run_convert_whole (P := Tryz.prog) _ 22 5 9 Tryz.underlying22 Tryz.underlying5 Tryz.underlying9 b o s HW.out cap
  have HC : Hid (Bytes w b o s) := hideP hc
  have HV : Hid (w.var? Tryz.prog "strconv.ErrRange" = some #[.iface 87 (.pointer (some x))]) := hideP hv
  clear hc hv
  go_enter Tryz.func16, Tryz.ntmps16
  go_wp2_with (first
    | (go_at_call 21; have _g := hb1; clear _g; refine (trimLeft_digs d _).mono ?_; rintro e w2 ⟨rfl, hb2'⟩; have hb2 := step_kept hb1 hb2'; clear hb2'; rw [hr.out])
    | (go_at_call 20; refine (small_no s b o cap _ hs hcap HW.out h1 hsm.out).mono ?_; rintro e w' ⟨rfl, hw⟩; have hw2 := hw.symm; subst hw2)
    | (go_at_call 21; refine (trimLeft_signs s _).mono ?_; rintro e w1 ⟨rfl, hb1'⟩; have hb1 : Below (start w 2 line).heap.size (start w 2 line) w1 := hb1'; clear hb1'; rw [hd.out])
    | (go_at_call 23; refine (trimSuffix_N s _ hs).mono ?_; rintro e w' ⟨rfl, hw⟩; have hw2 := hw.symm; subst hw2; rw [ht.out])
    | (go_at_call 22; refine (parse_ok t n _ hts hp.out).mono ?_; rintro e w3 ⟨rfl, hb3'⟩; have hb3 := step_kept hb2 hb3'; clear hb3'; obtain ⟨⟨p0, p1, p2, p3, p4, p5⟩, q0, q1, q2, q3, q4, q5⟩ := first_kept hb3; obtain ⟨⟨u0, u1, u2, u3, u4, u5⟩, v0, v1, v2, v3, v4, v5⟩ := second_kept hb3)
    )
  (try simp only [Exit.inBlock, Exit.then])
  refine bodyPost_ret (by simp [results, Tryz.results16, go_sem, p0, p1, p2, p3, p4, p5]; try rfl) rfl ?_
  refine ⟨rfl, ?_⟩
  repeat (refine Below.setCell ?_ (by first | exact Nat.le_refl _ | exact Nat.le_add_right _ _) _)
  exact start_kept hb3

set_option maxHeartbeats 1000000 in
theorem num_zeR (B b o cap : Nat) (line : Int) (s : ByteArray) (x : Addr) (w : World) (hc0 : Came w B b o cap line s) (hv : w.var? Tryz.prog "strconv.ErrRange" = some #[.iface 87 (.pointer (some x))]) (hsm : Hid (smallL s.data.toList = none)) (d : ByteArray) (hd : Hid (str (trimLeftS s.data.toList signs) = d)) (_h3 : decide ((d.size : Int) < (s.size : Int) - 1) = false) (r : ByteArray) (hr : Hid (str (trimLeftS d.data.toList digs) = r)) (k : Nat) (_hk : (d.size : Int) - (r.size : Int) = (k : Int)) (_hk2 : k ≤ d.size) (_hx : d.extract k d.size = r) (_ds : d.size ≤ 131072) (_rs : r.size ≤ 131072) (_k1 : (1 : Int) < (k : Int)) (_k3 : 1 < k) (_k0 : 0 < d.size) (_k2 : ¬ (d[0].toNat : Int) = 48) (_k4 : ((d[0].toNat : Int) == 48) = false) (_r1 : r.toList = []) (t : ByteArray) (ht : Hid (str (trimSuffix s.data.toList [78]) = t)) (hts : t.size ≤ 131072) (hp : Hid (parseIntB 64 t.data.toList = .range)) :
    Calls Tryz.prog 16 #[.pointer (some ⟨B, 0, none⟩)] w fun e w' => e = .returned (.tuple #[.agg #[.int .u8 2, .int .i64 line, .string s, .int .i64 0, .bool false, .slice none 0 0], .nilIface]) ∧ Below w.heap.size w w' := by
  obtain ⟨hb, hB, hl, htk, hc, hs, hcap, h1⟩ := hc0
  have hp0 : 0 < w.heap.size := by omega
  have HW : Hid (Bytes ((w.alloc (.cells #[.int .u8 0, .int .i64 0, .string ⟨#[]⟩, .int .i64 0, .bool false, .slice none 0 0] 43)).alloc (.cells #[.int .u8 2, .int .i64 line, .string ⟨#[]⟩, .int .i64 0, .bool false, .slice none 0 0] 43)) b o s) := hideP (bytes_kept hc hb (start_below w 2 line))
  have hcv := run_convert_whole (P := Tryz.prog) _ 22 5 9 Tryz.underlying22 Tryz.underlying5 Tryz.underlying9 b o s HW.out cap
  have HC : Hid (Bytes w b o s) := hideP hc
  have HV : Hid (w.var? Tryz.prog "strconv.ErrRange" = some #[.iface 87 (.pointer (some x))]) := hideP hv
  clear hc hv
  go_enter Tryz.func16, Tryz.ntmps16
  go_wp2_with (first
    | (go_at_call 21; have _g := hb1; clear _g; refine (trimLeft_digs d _).mono ?_; rintro e w2 ⟨rfl, hb2'⟩; have hb2 := step_kept hb1 hb2'; clear hb2'; rw [hr.out])
    | (go_at_call 20; refine (small_no s b o cap _ hs hcap HW.out h1 hsm.out).mono ?_; rintro e w' ⟨rfl, hw⟩; have hw2 := hw.symm; subst hw2)
    | (go_at_call 21; refine (trimLeft_signs s _).mono ?_; rintro e w1 ⟨rfl, hb1'⟩; have hb1 : Below (start w 2 line).heap.size (start w 2 line) w1 := hb1'; clear hb1'; rw [hd.out])
    | (go_at_call 23; refine (trimSuffix_N s _ hs).mono ?_; rintro e w' ⟨rfl, hw⟩; have hw2 := hw.symm; subst hw2; rw [ht.out])
    | (go_at_call 22; refine (parse_range t x _ hts hp.out (var_kept hp0 HV.out (start_kept hb2))).mono ?_; rintro e w3 ⟨N, n, rfl, hN, hb3'⟩; have hb3 := step_kept hb2 hb3'; clear hb3'; have hg3 := var_cell (var_kept hp0 HV.out (start_kept hb3)); obtain ⟨⟨p0, p1, p2, p3, p4, p5⟩, q0, q1, q2, q3, q4, q5⟩ := first_kept hb3; obtain ⟨⟨u0, u1, u2, u3, u4, u5⟩, v0, v1, v2, v3, v4, v5⟩ := second_kept hb3)
    | (go_at_call 24; refine (is_wrap_same N 0 x _ hN).mono ?_; rintro e w' ⟨rfl, hw⟩; have hw2 := hw.symm; subst hw2)
    )
  (try simp only [Exit.inBlock, Exit.then])
  refine bodyPost_ret (by simp [results, Tryz.results16, go_sem, p0, p1, p2, p3, p4, p5]; try rfl) rfl ?_
  refine ⟨rfl, ?_⟩
  repeat (refine Below.setCell ?_ (by first | exact Nat.le_refl _ | exact Nat.le_add_right _ _) _)
  exact start_kept hb3

set_option maxHeartbeats 1000000 in
theorem num_znO (B b o cap : Nat) (line : Int) (s : ByteArray) (x : Addr) (w : World) (hc0 : Came w B b o cap line s) (hv : w.var? Tryz.prog "strconv.ErrRange" = some #[.iface 87 (.pointer (some x))]) (hsm : Hid (smallL s.data.toList = none)) (d : ByteArray) (hd : Hid (str (trimLeftS s.data.toList signs) = d)) (_h3 : decide ((d.size : Int) < (s.size : Int) - 1) = false) (r : ByteArray) (hr : Hid (str (trimLeftS d.data.toList digs) = r)) (k : Nat) (_hk : (d.size : Int) - (r.size : Int) = (k : Int)) (_hk2 : k ≤ d.size) (_hx : d.extract k d.size = r) (_ds : d.size ≤ 131072) (_rs : r.size ≤ 131072) (_k1 : (1 : Int) < (k : Int)) (_k3 : 1 < k) (_k0 : 0 < d.size) (_k2 : ¬ (d[0].toNat : Int) = 48) (_k4 : ((d[0].toNat : Int) == 48) = false) (_r1 : r.toList = [78]) (t : ByteArray) (ht : Hid (str (trimSuffix s.data.toList [78]) = t)) (hts : t.size ≤ 131072) (n : Int) (hp : Hid (parseIntB 64 t.data.toList = .ok n)) :
    Calls Tryz.prog 16 #[.pointer (some ⟨B, 0, none⟩)] w fun e w' => e = .returned (.tuple #[.agg #[.int .u8 2, .int .i64 line, .string ⟨#[]⟩, .int .i64 n, .bool true, .slice none 0 0], .nilIface]) ∧ Below w.heap.size w w' := by
  obtain ⟨hb, hB, hl, htk, hc, hs, hcap, h1⟩ := hc0
  have hp0 : 0 < w.heap.size := by omega
  have HW : Hid (Bytes ((w.alloc (.cells #[.int .u8 0, .int .i64 0, .string ⟨#[]⟩, .int .i64 0, .bool false, .slice none 0 0] 43)).alloc (.cells #[.int .u8 2, .int .i64 line, .string ⟨#[]⟩, .int .i64 0, .bool false, .slice none 0 0] 43)) b o s) := hideP (bytes_kept hc hb (start_below w 2 line))
  have hcv := run_convert_whole (P := Tryz.prog) _ 22 5 9 Tryz.underlying22 Tryz.underlying5 Tryz.underlying9 b o s HW.out cap
  have HC : Hid (Bytes w b o s) := hideP hc
  have HV : Hid (w.var? Tryz.prog "strconv.ErrRange" = some #[.iface 87 (.pointer (some x))]) := hideP hv
  clear hc hv
  go_enter Tryz.func16, Tryz.ntmps16
  go_wp2_with (first
    | (go_at_call 21; have _g := hb1; clear _g; refine (trimLeft_digs d _).mono ?_; rintro e w2 ⟨rfl, hb2'⟩; have hb2 := step_kept hb1 hb2'; clear hb2'; rw [hr.out])
    | (go_at_call 20; refine (small_no s b o cap _ hs hcap HW.out h1 hsm.out).mono ?_; rintro e w' ⟨rfl, hw⟩; have hw2 := hw.symm; subst hw2)
    | (go_at_call 21; refine (trimLeft_signs s _).mono ?_; rintro e w1 ⟨rfl, hb1'⟩; have hb1 : Below (start w 2 line).heap.size (start w 2 line) w1 := hb1'; clear hb1'; rw [hd.out])
    | (go_at_call 23; refine (trimSuffix_N s _ hs).mono ?_; rintro e w' ⟨rfl, hw⟩; have hw2 := hw.symm; subst hw2; rw [ht.out])
    | (go_at_call 22; refine (parse_ok t n _ hts hp.out).mono ?_; rintro e w3 ⟨rfl, hb3'⟩; have hb3 := step_kept hb2 hb3'; clear hb3'; obtain ⟨⟨p0, p1, p2, p3, p4, p5⟩, q0, q1, q2, q3, q4, q5⟩ := first_kept hb3; obtain ⟨⟨u0, u1, u2, u3, u4, u5⟩, v0, v1, v2, v3, v4, v5⟩ := second_kept hb3)
    )
  (try simp only [Exit.inBlock, Exit.then])
  refine bodyPost_ret (by simp [results, Tryz.results16, go_sem, p0, p1, p2, p3, p4, p5]; try rfl) rfl ?_
  refine ⟨rfl, ?_⟩
  repeat (refine Below.setCell ?_ (by first | exact Nat.le_refl _ | exact Nat.le_add_right _ _) _)
  exact start_kept hb3

set_option maxHeartbeats 1000000 in
theorem num_znR (B b o cap : Nat) (line : Int) (s : ByteArray) (x : Addr) (w : World) (hc0 : Came w B b o cap line s) (hv : w.var? Tryz.prog "strconv.ErrRange" = some #[.iface 87 (.pointer (some x))]) (hsm : Hid (smallL s.data.toList = none)) (d : ByteArray) (hd : Hid (str (trimLeftS s.data.toList signs) = d)) (_h3 : decide ((d.size : Int) < (s.size : Int) - 1) = false) (r : ByteArray) (hr : Hid (str (trimLeftS d.data.toList digs) = r)) (k : Nat) (_hk : (d.size : Int) - (r.size : Int) = (k : Int)) (_hk2 : k ≤ d.size) (_hx : d.extract k d.size = r) (_ds : d.size ≤ 131072) (_rs : r.size ≤ 131072) (_k1 : (1 : Int) < (k : Int)) (_k3 : 1 < k) (_k0 : 0 < d.size) (_k2 : ¬ (d[0].toNat : Int) = 48) (_k4 : ((d[0].toNat : Int) == 48) = false) (_r1 : r.toList = [78]) (t : ByteArray) (ht : Hid (str (trimSuffix s.data.toList [78]) = t)) (hts : t.size ≤ 131072) (hp : Hid (parseIntB 64 t.data.toList = .range)) :
    Calls Tryz.prog 16 #[.pointer (some ⟨B, 0, none⟩)] w fun e w' => e = .returned (.tuple #[.agg #[.int .u8 2, .int .i64 line, .string s, .int .i64 0, .bool false, .slice none 0 0], .nilIface]) ∧ Below w.heap.size w w' := by
  obtain ⟨hb, hB, hl, htk, hc, hs, hcap, h1⟩ := hc0
  have hp0 : 0 < w.heap.size := by omega
  have HW : Hid (Bytes ((w.alloc (.cells #[.int .u8 0, .int .i64 0, .string ⟨#[]⟩, .int .i64 0, .bool false, .slice none 0 0] 43)).alloc (.cells #[.int .u8 2, .int .i64 line, .string ⟨#[]⟩, .int .i64 0, .bool false, .slice none 0 0] 43)) b o s) := hideP (bytes_kept hc hb (start_below w 2 line))
  have hcv := run_convert_whole (P := Tryz.prog) _ 22 5 9 Tryz.underlying22 Tryz.underlying5 Tryz.underlying9 b o s HW.out cap
  have HC : Hid (Bytes w b o s) := hideP hc
  have HV : Hid (w.var? Tryz.prog "strconv.ErrRange" = some #[.iface 87 (.pointer (some x))]) := hideP hv
  clear hc hv
  go_enter Tryz.func16, Tryz.ntmps16
  go_wp2_with (first
    | (go_at_call 21; have _g := hb1; clear _g; refine (trimLeft_digs d _).mono ?_; rintro e w2 ⟨rfl, hb2'⟩; have hb2 := step_kept hb1 hb2'; clear hb2'; rw [hr.out])
    | (go_at_call 20; refine (small_no s b o cap _ hs hcap HW.out h1 hsm.out).mono ?_; rintro e w' ⟨rfl, hw⟩; have hw2 := hw.symm; subst hw2)
    | (go_at_call 21; refine (trimLeft_signs s _).mono ?_; rintro e w1 ⟨rfl, hb1'⟩; have hb1 : Below (start w 2 line).heap.size (start w 2 line) w1 := hb1'; clear hb1'; rw [hd.out])
    | (go_at_call 23; refine (trimSuffix_N s _ hs).mono ?_; rintro e w' ⟨rfl, hw⟩; have hw2 := hw.symm; subst hw2; rw [ht.out])
    | (go_at_call 22; refine (parse_range t x _ hts hp.out (var_kept hp0 HV.out (start_kept hb2))).mono ?_; rintro e w3 ⟨N, n, rfl, hN, hb3'⟩; have hb3 := step_kept hb2 hb3'; clear hb3'; have hg3 := var_cell (var_kept hp0 HV.out (start_kept hb3)); obtain ⟨⟨p0, p1, p2, p3, p4, p5⟩, q0, q1, q2, q3, q4, q5⟩ := first_kept hb3; obtain ⟨⟨u0, u1, u2, u3, u4, u5⟩, v0, v1, v2, v3, v4, v5⟩ := second_kept hb3)
    | (go_at_call 24; refine (is_wrap_same N 0 x _ hN).mono ?_; rintro e w' ⟨rfl, hw⟩; have hw2 := hw.symm; subst hw2)
    )
  (try simp only [Exit.inBlock, Exit.then])
  refine bodyPost_ret (by simp [results, Tryz.results16, go_sem, p0, p1, p2, p3, p4, p5]; try rfl) rfl ?_
  refine ⟨rfl, ?_⟩
  repeat (refine Below.setCell ?_ (by first | exact Nat.le_refl _ | exact Nat.le_add_right _ _) _)
  exact start_kept hb3

set_option maxHeartbeats 1000000 in
theorem num_zsT (B b o cap : Nat) (line : Int) (s : ByteArray) (x : Addr) (w : World) (hc0 : Came w B b o cap line s) (hv : w.var? Tryz.prog "strconv.ErrRange" = some #[.iface 87 (.pointer (some x))]) (hsm : Hid (smallL s.data.toList = none)) (d : ByteArray) (hd : Hid (str (trimLeftS s.data.toList signs) = d)) (_h3 : decide ((d.size : Int) < (s.size : Int) - 1) = false) (r : ByteArray) (hr : Hid (str (trimLeftS d.data.toList digs) = r)) (k : Nat) (_hk : (d.size : Int) - (r.size : Int) = (k : Int)) (_hk2 : k ≤ d.size) (_hx : d.extract k d.size = r) (_ds : d.size ≤ 131072) (_rs : r.size ≤ 131072) (_k1 : (1 : Int) < (k : Int)) (_k3 : 1 < k) (_k0 : 0 < d.size) (_k2 : ¬ (d[0].toNat : Int) = 48) (_k4 : ((d[0].toNat : Int) == 48) = false) (_r1 : ¬ r.toList = []) (_r2 : ¬ r.toList = [78]) (_r3 : r.toList.isEmpty = false) (_r4 : (r.toList == [78]) = false) (_r0 : 0 < r.size) (_s1 : (r[0].toNat : Int) = 47) (_s2 : (1 : Int) < r.size) (_s3 : 1 < r.size) (m : ByteArray) (hm : Hid (str (trimS (r.extract 1 r.size).data.toList digs) = m)) (_s4 : m.toList = []) :
    Calls Tryz.prog 16 #[.pointer (some ⟨B, 0, none⟩)] w fun e w' => e = .returned (.tuple #[.agg #[.int .u8 3, .int .i64 line, .string s, .int .i64 0, .bool false, .slice none 0 0], .nilIface]) ∧ Below w.heap.size w w' := by
  obtain ⟨hb, hB, hl, htk, hc, hs, hcap, h1⟩ := hc0
  have hp0 : 0 < w.heap.size := by omega
  have HW : Hid (Bytes ((w.alloc (.cells #[.int .u8 0, .int .i64 0, .string ⟨#[]⟩, .int .i64 0, .bool false, .slice none 0 0] 43)).alloc (.cells #[.int .u8 2, .int .i64 line, .string ⟨#[]⟩, .int .i64 0, .bool false, .slice none 0 0] 43)) b o s) := hideP (bytes_kept hc hb (start_below w 2 line))
  have hcv := run_convert_whole (P := Tryz.prog) _ 22 5 9 Tryz.underlying22 Tryz.underlying5 Tryz.underlying9 b o s HW.out cap
  have HC : Hid (Bytes w b o s) := hideP hc
  have HV : Hid (w.var? Tryz.prog "strconv.ErrRange" = some #[.iface 87 (.pointer (some x))]) := hideP hv
  clear hc hv
  go_enter Tryz.func16, Tryz.ntmps16
  go_wp2_with (first
    | (go_at_call 21; have _g := hb1; clear _g; refine (trimLeft_digs d _).mono ?_; rintro e w2 ⟨rfl, hb2'⟩; have hb2 := step_kept hb1 hb2'; clear hb2'; rw [hr.out])
    | (go_at_call 20; refine (small_no s b o cap _ hs hcap HW.out h1 hsm.out).mono ?_; rintro e w' ⟨rfl, hw⟩; have hw2 := hw.symm; subst hw2)
    | (go_at_call 21; refine (trimLeft_signs s _).mono ?_; rintro e w1 ⟨rfl, hb1'⟩; have hb1 : Below (start w 2 line).heap.size (start w 2 line) w1 := hb1'; clear hb1'; rw [hd.out])
    | (go_at_call 25; refine (trim_digs _ _ (by simp only [ByteArray.size_extract]; omega)).mono ?_; rintro e w3 ⟨rfl, hb3'⟩; have hb3 := step_kept hb2 hb3'; clear hb3'; rw [hm.out]; obtain ⟨⟨p0, p1, p2, p3, p4, p5⟩, q0, q1, q2, q3, q4, q5⟩ := first_kept hb3; obtain ⟨⟨u0, u1, u2, u3, u4, u5⟩, v0, v1, v2, v3, v4, v5⟩ := second_kept hb3)
    )
  (try simp only [Exit.inBlock, Exit.then])
  refine bodyPost_ret (by simp [results, Tryz.results16, go_sem, p0, p1, p2, p3, p4, p5]; try rfl) rfl ?_
  refine ⟨rfl, ?_⟩
  repeat (refine Below.setCell ?_ (by first | exact Nat.le_refl _ | exact Nat.le_add_right _ _) _)
  exact start_kept hb3

set_option maxHeartbeats 1000000 in
theorem num_zaT (B b o cap : Nat) (line : Int) (s : ByteArray) (x : Addr) (w : World) (hc0 : Came w B b o cap line s) (hv : w.var? Tryz.prog "strconv.ErrRange" = some #[.iface 87 (.pointer (some x))]) (hsm : Hid (smallL s.data.toList = none)) (d : ByteArray) (hd : Hid (str (trimLeftS s.data.toList signs) = d)) (_h3 : decide ((d.size : Int) < (s.size : Int) - 1) = false) (r : ByteArray) (hr : Hid (str (trimLeftS d.data.toList digs) = r)) (k : Nat) (_hk : (d.size : Int) - (r.size : Int) = (k : Int)) (_hk2 : k ≤ d.size) (_hx : d.extract k d.size = r) (_ds : d.size ≤ 131072) (_rs : r.size ≤ 131072) (_k1 : (1 : Int) < (k : Int)) (_k3 : 1 < k) (_k0 : 0 < d.size) (_k2 : ¬ (d[0].toNat : Int) = 48) (_k4 : ((d[0].toNat : Int) == 48) = false) (_r1 : ¬ r.toList = []) (_r2 : ¬ r.toList = [78]) (_r3 : r.toList.isEmpty = false) (_r4 : (r.toList == [78]) = false) (_r0 : 0 < r.size) (_s1 : ¬ (r[0].toNat : Int) = 47) (_s2 : ((r[0].toNat : Int) == 47) = false) (hf : Hid (floatL r.data.toList = true)) :
    Calls Tryz.prog 16 #[.pointer (some ⟨B, 0, none⟩)] w fun e w' => e = .returned (.tuple #[.agg #[.int .u8 3, .int .i64 line, .string s, .int .i64 0, .bool false, .slice none 0 0], .nilIface]) ∧ Below w.heap.size w w' := by
  obtain ⟨hb, hB, hl, htk, hc, hs, hcap, h1⟩ := hc0
  have hp0 : 0 < w.heap.size := by omega
  have HW : Hid (Bytes ((w.alloc (.cells #[.int .u8 0, .int .i64 0, .string ⟨#[]⟩, .int .i64 0, .bool false, .slice none 0 0] 43)).alloc (.cells #[.int .u8 2, .int .i64 line, .string ⟨#[]⟩, .int .i64 0, .bool false, .slice none 0 0] 43)) b o s) := hideP (bytes_kept hc hb (start_below w 2 line))
  have hcv := run_convert_whole (P := Tryz.prog) _ 22 5 9 Tryz.underlying22 Tryz.underlying5 Tryz.underlying9 b o s HW.out cap
  have HC : Hid (Bytes w b o s) := hideP hc
  have HV : Hid (w.var? Tryz.prog "strconv.ErrRange" = some #[.iface 87 (.pointer (some x))]) := hideP hv
  clear hc hv
  go_enter Tryz.func16, Tryz.ntmps16
  go_wp2_with (first
    | (go_at_call 21; have _g := hb1; clear _g; refine (trimLeft_digs d _).mono ?_; rintro e w2 ⟨rfl, hb2'⟩; have hb2 := step_kept hb1 hb2'; clear hb2'; rw [hr.out])
    | (go_at_call 20; refine (small_no s b o cap _ hs hcap HW.out h1 hsm.out).mono ?_; rintro e w' ⟨rfl, hw⟩; have hw2 := hw.symm; subst hw2)
    | (go_at_call 21; refine (trimLeft_signs s _).mono ?_; rintro e w1 ⟨rfl, hb1'⟩; have hb1 : Below (start w 2 line).heap.size (start w 2 line) w1 := hb1'; clear hb1'; rw [hd.out])
    | (go_at_call 26; refine (float_any r _ (by omega)).mono ?_; rintro e w4 ⟨rfl, hb4'⟩; have hb4 := step_kept hb2 hb4'; clear hb4'; rw [hf.out]; obtain ⟨⟨p0, p1, p2, p3, p4, p5⟩, q0, q1, q2, q3, q4, q5⟩ := first_kept hb4; obtain ⟨⟨u0, u1, u2, u3, u4, u5⟩, v0, v1, v2, v3, v4, v5⟩ := second_kept hb4)
    )
  (try simp only [Exit.inBlock, Exit.then])
  refine bodyPost_ret (by simp [results, Tryz.results16, go_sem, p0, p1, p2, p3, p4, p5]; try rfl) rfl ?_
  refine ⟨rfl, ?_⟩
  repeat (refine Below.setCell ?_ (by first | exact Nat.le_refl _ | exact Nat.le_add_right _ _) _)
  exact start_kept hb4

set_option maxHeartbeats 1000000 in
theorem num_zaF (B b o cap : Nat) (line : Int) (s : ByteArray) (x : Addr) (w : World) (hc0 : Came w B b o cap line s) (hv : w.var? Tryz.prog "strconv.ErrRange" = some #[.iface 87 (.pointer (some x))]) (hsm : Hid (smallL s.data.toList = none)) (d : ByteArray) (hd : Hid (str (trimLeftS s.data.toList signs) = d)) (_h3 : decide ((d.size : Int) < (s.size : Int) - 1) = false) (r : ByteArray) (hr : Hid (str (trimLeftS d.data.toList digs) = r)) (k : Nat) (_hk : (d.size : Int) - (r.size : Int) = (k : Int)) (_hk2 : k ≤ d.size) (_hx : d.extract k d.size = r) (_ds : d.size ≤ 131072) (_rs : r.size ≤ 131072) (_k1 : (1 : Int) < (k : Int)) (_k3 : 1 < k) (_k0 : 0 < d.size) (_k2 : ¬ (d[0].toNat : Int) = 48) (_k4 : ((d[0].toNat : Int) == 48) = false) (_r1 : ¬ r.toList = []) (_r2 : ¬ r.toList = [78]) (_r3 : r.toList.isEmpty = false) (_r4 : (r.toList == [78]) = false) (_r0 : 0 < r.size) (_s1 : ¬ (r[0].toNat : Int) = 47) (_s2 : ((r[0].toNat : Int) == 47) = false) (hf : Hid (floatL r.data.toList = false)) :
    Calls Tryz.prog 16 #[.pointer (some ⟨B, 0, none⟩)] w fun e w' => (∃ a, e = .returned (.tuple #[.agg #[.int .u8 0, .int .i64 0, .string ⟨#[]⟩, .int .i64 0, .bool false, .slice none 0 0], .iface 47 (.pointer (some a))])) ∧ Below w.heap.size w w' := by
  obtain ⟨hb, hB, hl, htk, hc, hs, hcap, h1⟩ := hc0
  have hp0 : 0 < w.heap.size := by omega
  have HW : Hid (Bytes ((w.alloc (.cells #[.int .u8 0, .int .i64 0, .string ⟨#[]⟩, .int .i64 0, .bool false, .slice none 0 0] 43)).alloc (.cells #[.int .u8 2, .int .i64 line, .string ⟨#[]⟩, .int .i64 0, .bool false, .slice none 0 0] 43)) b o s) := hideP (bytes_kept hc hb (start_below w 2 line))
  have hcv := run_convert_whole (P := Tryz.prog) _ 22 5 9 Tryz.underlying22 Tryz.underlying5 Tryz.underlying9 b o s HW.out cap
  have HC : Hid (Bytes w b o s) := hideP hc
  have HV : Hid (w.var? Tryz.prog "strconv.ErrRange" = some #[.iface 87 (.pointer (some x))]) := hideP hv
  clear hc hv
  go_enter Tryz.func16, Tryz.ntmps16
  go_wp2_with (first
    | (go_at_call 21; have _g := hb1; clear _g; refine (trimLeft_digs d _).mono ?_; rintro e w2 ⟨rfl, hb2'⟩; have hb2 := step_kept hb1 hb2'; clear hb2'; rw [hr.out])
    | (go_at_call 20; refine (small_no s b o cap _ hs hcap HW.out h1 hsm.out).mono ?_; rintro e w' ⟨rfl, hw⟩; have hw2 := hw.symm; subst hw2)
    | (go_at_call 21; refine (trimLeft_signs s _).mono ?_; rintro e w1 ⟨rfl, hb1'⟩; have hb1 : Below (start w 2 line).heap.size (start w 2 line) w1 := hb1'; clear hb1'; rw [hd.out])
    | (go_at_call 26; refine (float_any r _ (by omega)).mono ?_; rintro e w4 ⟨rfl, hb4'⟩; have hb4 := step_kept hb2 hb4'; clear hb4'; rw [hf.out]; have klw4 : w4.cell? ⟨B, 5, none⟩ = some (.int .i64 line) := by rw [(start_kept hb4).cell (p := ⟨B, 5, none⟩) hB]; exact hl)
    | (go_at_call 13; refine (err_num line s _ hs).mono ?_; rintro e w5 ⟨⟨a, rfl⟩, hb5'⟩; have hb5 := step_kept hb4 hb5'; clear hb5'; obtain ⟨⟨p0, p1, p2, p3, p4, p5⟩, q0, q1, q2, q3, q4, q5⟩ := first_kept hb5; obtain ⟨⟨u0, u1, u2, u3, u4, u5⟩, v0, v1, v2, v3, v4, v5⟩ := second_kept hb5)
    )
  (try simp only [Exit.inBlock, Exit.then])
  refine bodyPost_ret (by simp [results, Tryz.results16, go_sem, p0, p1, p2, p3, p4, p5]; try rfl) rfl ?_
  refine ⟨⟨a, rfl⟩, ?_⟩
  repeat (refine Below.setCell ?_ (by first | exact Nat.le_refl _ | exact Nat.le_add_right _ _) _)
  exact start_kept hb5

set_option maxHeartbeats 1000000 in
theorem num_zbT (B b o cap : Nat) (line : Int) (s : ByteArray) (x : Addr) (w : World) (hc0 : Came w B b o cap line s) (hv : w.var? Tryz.prog "strconv.ErrRange" = some #[.iface 87 (.pointer (some x))]) (hsm : Hid (smallL s.data.toList = none)) (d : ByteArray) (hd : Hid (str (trimLeftS s.data.toList signs) = d)) (_h3 : decide ((d.size : Int) < (s.size : Int) - 1) = false) (r : ByteArray) (hr : Hid (str (trimLeftS d.data.toList digs) = r)) (k : Nat) (_hk : (d.size : Int) - (r.size : Int) = (k : Int)) (_hk2 : k ≤ d.size) (_hx : d.extract k d.size = r) (_ds : d.size ≤ 131072) (_rs : r.size ≤ 131072) (_k1 : (1 : Int) < (k : Int)) (_k3 : 1 < k) (_k0 : 0 < d.size) (_k2 : ¬ (d[0].toNat : Int) = 48) (_k4 : ((d[0].toNat : Int) == 48) = false) (_r1 : ¬ r.toList = []) (_r2 : ¬ r.toList = [78]) (_r3 : r.toList.isEmpty = false) (_r4 : (r.toList == [78]) = false) (_r0 : 0 < r.size) (_s1 : (r[0].toNat : Int) = 47) (_s2 : decide ((1 : Int) < (r.size : Int)) = false) (hf : Hid (floatL r.data.toList = true)) :
    Calls Tryz.prog 16 #[.pointer (some ⟨B, 0, none⟩)] w fun e w' => e = .returned (.tuple #[.agg #[.int .u8 3, .int .i64 line, .string s, .int .i64 0, .bool false, .slice none 0 0], .nilIface]) ∧ Below w.heap.size w w' := by
  obtain ⟨hb, hB, hl, htk, hc, hs, hcap, h1⟩ := hc0
  have hp0 : 0 < w.heap.size := by omega
  have HW : Hid (Bytes ((w.alloc (.cells #[.int .u8 0, .int .i64 0, .string ⟨#[]⟩, .int .i64 0, .bool false, .slice none 0 0] 43)).alloc (.cells #[.int .u8 2, .int .i64 line, .string ⟨#[]⟩, .int .i64 0, .bool false, .slice none 0 0] 43)) b o s) := hideP (bytes_kept hc hb (start_below w 2 line))
  have hcv := run_convert_whole (P := Tryz.prog) _ 22 5 9 Tryz.underlying22 Tryz.underlying5 Tryz.underlying9 b o s HW.out cap
  have HC : Hid (Bytes w b o s) := hideP hc
  have HV : Hid (w.var? Tryz.prog "strconv.ErrRange" = some #[.iface 87 (.pointer (some x))]) := hideP hv
  clear hc hv
  go_enter Tryz.func16, Tryz.ntmps16
  go_wp2_with (first
    | (go_at_call 21; have _g := hb1; clear _g; refine (trimLeft_digs d _).mono ?_; rintro e w2 ⟨rfl, hb2'⟩; have hb2 := step_kept hb1 hb2'; clear hb2'; rw [hr.out])
    | (go_at_call 20; refine (small_no s b o cap _ hs hcap HW.out h1 hsm.out).mono ?_; rintro e w' ⟨rfl, hw⟩; have hw2 := hw.symm; subst hw2)
    | (go_at_call 21; refine (trimLeft_signs s _).mono ?_; rintro e w1 ⟨rfl, hb1'⟩; have hb1 : Below (start w 2 line).heap.size (start w 2 line) w1 := hb1'; clear hb1'; rw [hd.out])
    | (go_at_call 26; refine (float_any r _ (by omega)).mono ?_; rintro e w4 ⟨rfl, hb4'⟩; have hb4 := step_kept hb2 hb4'; clear hb4'; rw [hf.out]; obtain ⟨⟨p0, p1, p2, p3, p4, p5⟩, q0, q1, q2, q3, q4, q5⟩ := first_kept hb4; obtain ⟨⟨u0, u1, u2, u3, u4, u5⟩, v0, v1, v2, v3, v4, v5⟩ := second_kept hb4)
    )
  (try simp only [Exit.inBlock, Exit.then])
  refine bodyPost_ret (by simp [results, Tryz.results16, go_sem, p0, p1, p2, p3, p4, p5]; try rfl) rfl ?_
  refine ⟨rfl, ?_⟩
  repeat (refine Below.setCell ?_ (by first | exact Nat.le_refl _ | exact Nat.le_add_right _ _) _)
  exact start_kept hb4

set_option maxHeartbeats 1000000 in
theorem num_zbF (B b o cap : Nat) (line : Int) (s : ByteArray) (x : Addr) (w : World) (hc0 : Came w B b o cap line s) (hv : w.var? Tryz.prog "strconv.ErrRange" = some #[.iface 87 (.pointer (some x))]) (hsm : Hid (smallL s.data.toList = none)) (d : ByteArray) (hd : Hid (str (trimLeftS s.data.toList signs) = d)) (_h3 : decide ((d.size : Int) < (s.size : Int) - 1) = false) (r : ByteArray) (hr : Hid (str (trimLeftS d.data.toList digs) = r)) (k : Nat) (_hk : (d.size : Int) - (r.size : Int) = (k : Int)) (_hk2 : k ≤ d.size) (_hx : d.extract k d.size = r) (_ds : d.size ≤ 131072) (_rs : r.size ≤ 131072) (_k1 : (1 : Int) < (k : Int)) (_k3 : 1 < k) (_k0 : 0 < d.size) (_k2 : ¬ (d[0].toNat : Int) = 48) (_k4 : ((d[0].toNat : Int) == 48) = false) (_r1 : ¬ r.toList = []) (_r2 : ¬ r.toList = [78]) (_r3 : r.toList.isEmpty = false) (_r4 : (r.toList == [78]) = false) (_r0 : 0 < r.size) (_s1 : (r[0].toNat : Int) = 47) (_s2 : decide ((1 : Int) < (r.size : Int)) = false) (hf : Hid (floatL r.data.toList = false)) :
    Calls Tryz.prog 16 #[.pointer (some ⟨B, 0, none⟩)] w fun e w' => (∃ a, e = .returned (.tuple #[.agg #[.int .u8 0, .int .i64 0, .string ⟨#[]⟩, .int .i64 0, .bool false, .slice none 0 0], .iface 47 (.pointer (some a))])) ∧ Below w.heap.size w w' := by
  obtain ⟨hb, hB, hl, htk, hc, hs, hcap, h1⟩ := hc0
  have hp0 : 0 < w.heap.size := by omega
  have HW : Hid (Bytes ((w.alloc (.cells #[.int .u8 0, .int .i64 0, .string ⟨#[]⟩, .int .i64 0, .bool false, .slice none 0 0] 43)).alloc (.cells #[.int .u8 2, .int .i64 line, .string ⟨#[]⟩, .int .i64 0, .bool false, .slice none 0 0] 43)) b o s) := hideP (bytes_kept hc hb (start_below w 2 line))
  have hcv := run_convert_whole (P := Tryz.prog) _ 22 5 9 Tryz.underlying22 Tryz.underlying5 Tryz.underlying9 b o s HW.out cap
  have HC : Hid (Bytes w b o s) := hideP hc
  have HV : Hid (w.var? Tryz.prog "strconv.ErrRange" = some #[.iface 87 (.pointer (some x))]) := hideP hv
  clear hc hv
  go_enter Tryz.func16, Tryz.ntmps16
  go_wp2_with (first
    | (go_at_call 21; have _g := hb1; clear _g; refine (trimLeft_digs d _).mono ?_; rintro e w2 ⟨rfl, hb2'⟩; have hb2 := step_kept hb1 hb2'; clear hb2'; rw [hr.out])
    | (go_at_call 20; refine (small_no s b o cap _ hs hcap HW.out h1 hsm.out).mono ?_; rintro e w' ⟨rfl, hw⟩; have hw2 := hw.symm; subst hw2)
    | (go_at_call 21; refine (trimLeft_signs s _).mono ?_; rintro e w1 ⟨rfl, hb1'⟩; have hb1 : Below (start w 2 line).heap.size (start w 2 line) w1 := hb1'; clear hb1'; rw [hd.out])
    | (go_at_call 26; refine (float_any r _ (by omega)).mono ?_; rintro e w4 ⟨rfl, hb4'⟩; have hb4 := step_kept hb2 hb4'; clear hb4'; rw [hf.out]; have klw4 : w4.cell? ⟨B, 5, none⟩ = some (.int .i64 line) := by rw [(start_kept hb4).cell (p := ⟨B, 5, none⟩) hB]; exact hl)
    | (go_at_call 13; refine (err_num line s _ hs).mono ?_; rintro e w5 ⟨⟨a, rfl⟩, hb5'⟩; have hb5 := step_kept hb4 hb5'; clear hb5'; obtain ⟨⟨p0, p1, p2, p3, p4, p5⟩, q0, q1, q2, q3, q4, q5⟩ := first_kept hb5; obtain ⟨⟨u0, u1, u2, u3, u4, u5⟩, v0, v1, v2, v3, v4, v5⟩ := second_kept hb5)
    )
  (try simp only [Exit.inBlock, Exit.then])
  refine bodyPost_ret (by simp [results, Tryz.results16, go_sem, p0, p1, p2, p3, p4, p5]; try rfl) rfl ?_
  refine ⟨⟨a, rfl⟩, ?_⟩
  repeat (refine Below.setCell ?_ (by first | exact Nat.le_refl _ | exact Nat.le_add_right _ _) _)
  exact start_kept hb5

set_option maxHeartbeats 1000000 in
theorem num_zcT (B b o cap : Nat) (line : Int) (s : ByteArray) (x : Addr) (w : World) (hc0 : Came w B b o cap line s) (hv : w.var? Tryz.prog "strconv.ErrRange" = some #[.iface 87 (.pointer (some x))]) (hsm : Hid (smallL s.data.toList = none)) (d : ByteArray) (hd : Hid (str (trimLeftS s.data.toList signs) = d)) (_h3 : decide ((d.size : Int) < (s.size : Int) - 1) = false) (r : ByteArray) (hr : Hid (str (trimLeftS d.data.toList digs) = r)) (k : Nat) (_hk : (d.size : Int) - (r.size : Int) = (k : Int)) (_hk2 : k ≤ d.size) (_hx : d.extract k d.size = r) (_ds : d.size ≤ 131072) (_rs : r.size ≤ 131072) (_k1 : (1 : Int) < (k : Int)) (_k3 : 1 < k) (_k0 : 0 < d.size) (_k2 : ¬ (d[0].toNat : Int) = 48) (_k4 : ((d[0].toNat : Int) == 48) = false) (_r1 : ¬ r.toList = []) (_r2 : ¬ r.toList = [78]) (_r3 : r.toList.isEmpty = false) (_r4 : (r.toList == [78]) = false) (_r0 : 0 < r.size) (_s1 : (r[0].toNat : Int) = 47) (_s2 : (1 : Int) < r.size) (_s3 : 1 < r.size) (m : ByteArray) (hm : Hid (str (trimS (r.extract 1 r.size).data.toList digs) = m)) (_s4 : ¬ m.toList = []) (_s5 : m.toList.isEmpty = false) (hf : Hid (floatL r.data.toList = true)) :
    Calls Tryz.prog 16 #[.pointer (some ⟨B, 0, none⟩)] w fun e w' => e = .returned (.tuple #[.agg #[.int .u8 3, .int .i64 line, .string s, .int .i64 0, .bool false, .slice none 0 0], .nilIface]) ∧ Below w.heap.size w w' := by
  obtain ⟨hb, hB, hl, htk, hc, hs, hcap, h1⟩ := hc0
  have hp0 : 0 < w.heap.size := by omega
  have HW : Hid (Bytes ((w.alloc (.cells #[.int .u8 0, .int .i64 0, .string ⟨#[]⟩, .int .i64 0, .bool false, .slice none 0 0] 43)).alloc (.cells #[.int .u8 2, .int .i64 line, .string ⟨#[]⟩, .int .i64 0, .bool false, .slice none 0 0] 43)) b o s) := hideP (bytes_kept hc hb (start_below w 2 line))
  have hcv := run_convert_whole (P := Tryz.prog) _ 22 5 9 Tryz.underlying22 Tryz.underlying5 Tryz.underlying9 b o s HW.out cap
  have HC : Hid (Bytes w b o s) := hideP hc
  have HV : Hid (w.var? Tryz.prog "strconv.ErrRange" = some #[.iface 87 (.pointer (some x))]) := hideP hv
  clear hc hv
  go_enter Tryz.func16, Tryz.ntmps16
  go_wp2_with (first
    | (go_at_call 21; have _g := hb1; clear _g; refine (trimLeft_digs d _).mono ?_; rintro e w2 ⟨rfl, hb2'⟩; have hb2 := step_kept hb1 hb2'; clear hb2'; rw [hr.out])
    | (go_at_call 20; refine (small_no s b o cap _ hs hcap HW.out h1 hsm.out).mono ?_; rintro e w' ⟨rfl, hw⟩; have hw2 := hw.symm; subst hw2)
    | (go_at_call 21; refine (trimLeft_signs s _).mono ?_; rintro e w1 ⟨rfl, hb1'⟩; have hb1 : Below (start w 2 line).heap.size (start w 2 line) w1 := hb1'; clear hb1'; rw [hd.out])
    | (go_at_call 25; refine (trim_digs _ _ (by simp only [ByteArray.size_extract]; omega)).mono ?_; rintro e w3 ⟨rfl, hb3'⟩; have hb3 := step_kept hb2 hb3'; clear hb3'; rw [hm.out])
    | (go_at_call 26; refine (float_any r _ (by omega)).mono ?_; rintro e w4 ⟨rfl, hb4'⟩; have hb4 := step_kept hb3 hb4'; clear hb4'; rw [hf.out]; obtain ⟨⟨p0, p1, p2, p3, p4, p5⟩, q0, q1, q2, q3, q4, q5⟩ := first_kept hb4; obtain ⟨⟨u0, u1, u2, u3, u4, u5⟩, v0, v1, v2, v3, v4, v5⟩ := second_kept hb4)
    )
  (try simp only [Exit.inBlock, Exit.then])
  refine bodyPost_ret (by simp [results, Tryz.results16, go_sem, p0, p1, p2, p3, p4, p5]; try rfl) rfl ?_
  refine ⟨rfl, ?_⟩
  repeat (refine Below.setCell ?_ (by first | exact Nat.le_refl _ | exact Nat.le_add_right _ _) _)
  exact start_kept hb4

set_option maxHeartbeats 1000000 in
theorem num_zcF (B b o cap : Nat) (line : Int) (s : ByteArray) (x : Addr) (w : World) (hc0 : Came w B b o cap line s) (hv : w.var? Tryz.prog "strconv.ErrRange" = some #[.iface 87 (.pointer (some x))]) (hsm : Hid (smallL s.data.toList = none)) (d : ByteArray) (hd : Hid (str (trimLeftS s.data.toList signs) = d)) (_h3 : decide ((d.size : Int) < (s.size : Int) - 1) = false) (r : ByteArray) (hr : Hid (str (trimLeftS d.data.toList digs) = r)) (k : Nat) (_hk : (d.size : Int) - (r.size : Int) = (k : Int)) (_hk2 : k ≤ d.size) (_hx : d.extract k d.size = r) (_ds : d.size ≤ 131072) (_rs : r.size ≤ 131072) (_k1 : (1 : Int) < (k : Int)) (_k3 : 1 < k) (_k0 : 0 < d.size) (_k2 : ¬ (d[0].toNat : Int) = 48) (_k4 : ((d[0].toNat : Int) == 48) = false) (_r1 : ¬ r.toList = []) (_r2 : ¬ r.toList = [78]) (_r3 : r.toList.isEmpty = false) (_r4 : (r.toList == [78]) = false) (_r0 : 0 < r.size) (_s1 : (r[0].toNat : Int) = 47) (_s2 : (1 : Int) < r.size) (_s3 : 1 < r.size) (m : ByteArray) (hm : Hid (str (trimS (r.extract 1 r.size).data.toList digs) = m)) (_s4 : ¬ m.toList = []) (_s5 : m.toList.isEmpty = false) (hf : Hid (floatL r.data.toList = false)) :
    Calls Tryz.prog 16 #[.pointer (some ⟨B, 0, none⟩)] w fun e w' => (∃ a, e = .returned (.tuple #[.agg #[.int .u8 0, .int .i64 0, .string ⟨#[]⟩, .int .i64 0, .bool false, .slice none 0 0], .iface 47 (.pointer (some a))])) ∧ Below w.heap.size w w' := by
  obtain ⟨hb, hB, hl, htk, hc, hs, hcap, h1⟩ := hc0
  have hp0 : 0 < w.heap.size := by omega
  have HW : Hid (Bytes ((w.alloc (.cells #[.int .u8 0, .int .i64 0, .string ⟨#[]⟩, .int .i64 0, .bool false, .slice none 0 0] 43)).alloc (.cells #[.int .u8 2, .int .i64 line, .string ⟨#[]⟩, .int .i64 0, .bool false, .slice none 0 0] 43)) b o s) := hideP (bytes_kept hc hb (start_below w 2 line))
  have hcv := run_convert_whole (P := Tryz.prog) _ 22 5 9 Tryz.underlying22 Tryz.underlying5 Tryz.underlying9 b o s HW.out cap
  have HC : Hid (Bytes w b o s) := hideP hc
  have HV : Hid (w.var? Tryz.prog "strconv.ErrRange" = some #[.iface 87 (.pointer (some x))]) := hideP hv
  clear hc hv
  go_enter Tryz.func16, Tryz.ntmps16
  go_wp2_with (first
    | (go_at_call 21; have _g := hb1; clear _g; refine (trimLeft_digs d _).mono ?_; rintro e w2 ⟨rfl, hb2'⟩; have hb2 := step_kept hb1 hb2'; clear hb2'; rw [hr.out])
    | (go_at_call 20; refine (small_no s b o cap _ hs hcap HW.out h1 hsm.out).mono ?_; rintro e w' ⟨rfl, hw⟩; have hw2 := hw.symm; subst hw2)
    | (go_at_call 21; refine (trimLeft_signs s _).mono ?_; rintro e w1 ⟨rfl, hb1'⟩; have hb1 : Below (start w 2 line).heap.size (start w 2 line) w1 := hb1'; clear hb1'; rw [hd.out])
    | (go_at_call 25; refine (trim_digs _ _ (by simp only [ByteArray.size_extract]; omega)).mono ?_; rintro e w3 ⟨rfl, hb3'⟩; have hb3 := step_kept hb2 hb3'; clear hb3'; rw [hm.out])
    | (go_at_call 26; refine (float_any r _ (by omega)).mono ?_; rintro e w4 ⟨rfl, hb4'⟩; have hb4 := step_kept hb3 hb4'; clear hb4'; rw [hf.out]; have klw4 : w4.cell? ⟨B, 5, none⟩ = some (.int .i64 line) := by rw [(start_kept hb4).cell (p := ⟨B, 5, none⟩) hB]; exact hl)
    | (go_at_call 13; refine (err_num line s _ hs).mono ?_; rintro e w5 ⟨⟨a, rfl⟩, hb5'⟩; have hb5 := step_kept hb4 hb5'; clear hb5'; obtain ⟨⟨p0, p1, p2, p3, p4, p5⟩, q0, q1, q2, q3, q4, q5⟩ := first_kept hb5; obtain ⟨⟨u0, u1, u2, u3, u4, u5⟩, v0, v1, v2, v3, v4, v5⟩ := second_kept hb5)
    )
  (try simp only [Exit.inBlock, Exit.then])
  refine bodyPost_ret (by simp [results, Tryz.results16, go_sem, p0, p1, p2, p3, p4, p5]; try rfl) rfl ?_
  refine ⟨⟨a, rfl⟩, ?_⟩
  repeat (refine Below.setCell ?_ (by first | exact Nat.le_refl _ | exact Nat.le_add_right _ _) _)
  exact start_kept hb5

end Go.Proofs.Qxb6613685aGreatFmt
