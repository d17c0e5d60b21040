/-
  The walk of Parse, over whatever contract result keeps.
-/
import Derived.Test.Qxb6614847aFmtRsl
namespace Go.Proofs.Qxb6614847aFmt
open Go.RowKit Go.Extern.Stop Go.Stop Go.Extern Go.Maps
attribute [local go_sem] Tryf.call17 Tryf.guard Tryf.fmt0 Tryf.fmt0r Tryf.fmt1 Tryf.fmt1r Tryf.fmt2 Tryf.fmt2r Tryf.fmt3 Tryf.fmt3r Tryf.fmt4 Tryf.fmt4r Tryf.fmt5 Tryf.fmt5r Tryf.op9_115 Tryf.op9_115w Tryf.op3_100 Tryf.op3_100w Tryf.op5_113 Tryf.op5_113w Tryf.ptr59 Tryf.elem59 Tryf.isError59 Tryf.ptr50 Tryf.elem50 Tryf.isError50

/-- A call that ends in an error behind a pointer. -/
def Failed (w : World) (e : Ending) (w' : World) : Prop := ∃ T x, e = .returned (.iface T (.pointer (some x))) ∧ Below w.heap.size w w'
set_option maxHeartbeats 400000 in
theorem errorf_id (F : Interp) (c b : Nat) (s : ByteArray) (w : World) (hF : F.answers w.tape) (hc : w.cell? ⟨c, 0, none⟩ = some (.iface 59 (.pointer (some ⟨b, 0, none⟩)))) (hs : w.cell? ⟨b, 0, none⟩ = some (.string s)) :
    Calls Tryf.prog 10 #[.string ⟨#[110, 111, 32, 97, 117, 116, 104, 115, 101, 114, 118, 45, 105, 100, 58, 32, 37, 119]⟩, .slice (some ⟨c, 0, none⟩) 1 1] w (Failed w) := by
  have hF' := answers_open hF
  obtain ⟨r, hop⟩ := Tryf.opPlain59_119w "fmt.errorf" ⟨b, 0, none⟩ s w hs
  go_enter Tryf.func10, Tryf.ntmps10
  go_wp2
  go_ret
  exact ⟨_, _, rfl, ((Below.refl _ _).alloc (Nat.le_refl _) _).drew⟩

/-- Parse's end. -/
def PsPost (Fu n : Nat) (s : ByteArray) (w : World) (e : Ending) (w' : World) : Prop :=
  (∃ id acc Ms sv, parse Fu n s.data.toList = (id, some acc) ∧ e = .returned (.tuple #[.agg #[.string ⟨id.toArray⟩, sv], .nilIface]) ∧ RowsAt w.heap.size w' sv acc Ms ∧ Below w.heap.size w w') ∨
  (∃ id T x, parse Fu n s.data.toList = (id, none) ∧ e = .returned (.tuple #[.agg #[.string ⟨id.toArray⟩, .slice none 0 0], .iface T (.pointer (some x))]) ∧ Below w.heap.size w w')
theorem rest_zero (s : ByteArray) : rest s 0 = s.data.toList := rfl
theorem RowsAt.mono {base base' : Nat} {w : World} {sv : Value} {acc : List Res} {Ms : List Nat} (h : RowsAt base w sv acc Ms) (hb : base' ≤ base) : RowsAt base' w sv acc Ms := by
  refine ⟨h.len, ⟨h.row.1, ?_⟩, h.maps, fun M hM => Nat.le_trans hb (h.above M hM)⟩
  rcases h.row.2 with hn | ⟨g, cap, cur, h1, h2, h3⟩
  · exact Or.inl hn
  · exact Or.inr ⟨g, cap, cur, h1, Nat.le_trans hb h2, h3⟩
theorem RowsAt.shape {base : Nat} {w : World} {sv : Value} {acc : List Res} {Ms : List Nat} (h : RowsAt base w sv acc Ms) : ∃ ao cap, sv = .slice ao acc.length cap := by
  rcases h.row.2 with ⟨h1, h2⟩ | ⟨g, cap, cur, h1, _⟩
  · exact ⟨none, 0, by rw [h1, h2]⟩
  · exact ⟨_, cap, h1⟩
/-- The cell in which Parse lays its field. -/
structure Own25 (w : World) (B : Nat) : Prop where
  lt : B < w.heap.size
  c0 : w.cell? ⟨B, 0, none⟩ = some (.string ⟨#[]⟩)
  c1 : w.cell? ⟨B, 1, none⟩ = some (.slice none 0 0)
  f0 : w.frozen? ⟨B, 0, none⟩ = false
  f1 : w.frozen? ⟨B, 1, none⟩ = false
theorem Own25.kept {w w' : World} {B : Nat} {row : Option Nat} (h : Own25 w B) (hg : w.grownBy w' row) (hr : some B ≠ row) : Own25 w' B :=
  ⟨Nat.lt_of_lt_of_le h.lt hg.size, hg.cell h.c0 hr, hg.cell h.c1 hr, (World.frozen?_of_block (a := ⟨B, 0, none⟩) (hg.block B h.lt hr)).trans h.f0, (World.frozen?_of_block (a := ⟨B, 1, none⟩) (hg.block B h.lt hr)).trans h.f1⟩
def field0 : Obj := .cells #[.string ⟨#[]⟩, .slice none 0 0] 25
def reader0 (s : ByteArray) : Obj := .cells #[.string s, .int .i64 0] 38
theorem frozen_made (W : World) (N k : Nat) (c : Array Value) (t : TypeId) (h : N = W.heap.size) : (W.alloc (.cells c t)).frozen? ⟨N, k, none⟩ = false := by
  subst h
  exact Lib.frozen_of_heap (heap_alloc_new W _) k
theorem start_rd (w : World) (s : ByteArray) : Rd ((w.alloc (.cells #[.string ⟨#[]⟩, .slice none 0 0] 25)).alloc (.cells #[.string s, .int .i64 0] 38)) (w.heap.size + 1) s 0 :=
  ⟨by rw [World.size_alloc, World.size_alloc]; omega, alloc_cell _ _ 0 _ _ (by rw [World.size_alloc]), alloc_cell _ _ 1 _ _ (by rw [World.size_alloc]), frozen_made _ _ _ _ _ (by rw [World.size_alloc])⟩
theorem start_own (w : World) (s : ByteArray) : Own25 ((w.alloc (.cells #[.string ⟨#[]⟩, .slice none 0 0] 25)).alloc (.cells #[.string s, .int .i64 0] 38)) w.heap.size :=
  Own25.kept (w := w.alloc (.cells #[.string ⟨#[]⟩, .slice none 0 0] 25)) ⟨by rw [World.size_alloc]; omega, alloc_cell _ _ 0 _ _ rfl, alloc_cell _ _ 1 _ _ rfl, frozen_made _ _ _ _ _ rfl, frozen_made _ _ _ _ _ rfl⟩ (World.grownBy_alloc _ _ none) (by simp)
theorem start_below (w : World) (o1 o2 : Obj) : Below w.heap.size w ((w.alloc o1).alloc o2) := ((Below.refl _ w).alloc (Nat.le_refl _) o1).alloc (by rw [World.size_alloc]; omega) o2

set_option maxHeartbeats 8000000 in
set_option maxRecDepth 20000 in
theorem parse_any (F : Interp) (Fu n : Nat) (s : ByteArray) (w : World) (hF : F.answers w.tape) (hs : s.size ≤ 2097152) (hn : s.size < n) (hK : Kept F Fu (w.heap.size + 1) s) :
    Calls Tryf.prog 5 #[.string s] w (PsPost Fu n s w) := by
  have HF : Hid (F.answers w.tape) := hideP hF
  have HK : Hid (Kept F Fu (w.heap.size + 1) s) := hideP hK
  clear hF hK
  go_enter Tryf.func5, Tryf.ntmps5
  go_wp2_with (go_at_call 8; refine (space_any F (w.heap.size + 1) s 0 _ (by exact HF.out) (by exact start_rd w s) (Nat.zero_le _) hs).mono ?_)
  rintro e w1 (⟨i1, hi1, hi2, hq, rfl, hm⟩ | ⟨hq, v, rfl, hv, hg⟩)
  · have HM1 := hideP hm
    have HO1 : Hid (Own25 w1 w.heap.size) := hideP ((start_own w s).kept hm.grown (by simp))
    have HF1 : Hid (F.answers w1.tape) := hideP (by rw [hm.grown.tape]; exact HF.out)
    have HQ1 := hideP hq
    clear hm hq
    go_wp2_with (go_at_call 9; refine (value_any F (w.heap.size + 1) s i1 _ (by exact HF1.out) (by exact HM1.out.rd) hi2 hs).mono ?_)
    rintro e w2 (⟨i2, x, h12, hi3, hval, rfl, hm⟩ | ⟨hval, v, rfl, hv, hg⟩)
    · have HM2 : Hid _ := hideP (HM1.out.trans hm)
      have HO2 : Hid (Own25 w2 w.heap.size) := hideP (HO1.out.kept hm.grown (by simp))
      have HF2 : Hid (F.answers w2.tape) := hideP (by rw [hm.grown.tape]; exact HF1.out)
      have HQ2 := hideP (parse_ok (F := Fu) (n := n) HQ1.out hval)
      clear hm hval
      go_wp2_with (go_at_call 11; refine (results_any F Fu n (w.heap.size + 1) s i2 _ (by exact HF2.out) (by exact HM2.out.rd) hi3 hs hn HK.out).mono ?_)
      rintro e w3 (⟨acc, Ms, sv, hall, rfl, hrows, hg⟩ | ⟨hall, v, rfl, hv, hg⟩)
      · have HO3 : Hid (Own25 w3 w.heap.size) := hideP (HO2.out.kept hg (by simp))
        have HB : Hid (Below w.heap.size w w3) := hideP (((start_below w _ _).grown HM2.out.grown (by rw [World.size_alloc, World.size_alloc]; omega) (fun k e => by cases e; omega)).grown hg (by have := HM2.out.grown.size; rw [World.size_alloc, World.size_alloc] at this; omega) (fun k e => by cases e; omega))
        have HRw := hideP hrows
        have hw23 : w.heap.size < w2.heap.size := HO2.out.lt
        have o0 := HO3.out.c0
        have o1 := HO3.out.c1
        have o2 := HO3.out.f0
        have o3 := HO3.out.f1
        have HA := hideP hall
        clear hrows hg hall
        obtain ⟨ao, cap, rfl⟩ := HRw.out.shape
        go_wp2_with fail
        refine bodyPost_ret (by simp [Go.results, Tryf.results5, go_sem, o0, o1]; try rfl) rfl ?_
        refine Or.inl ⟨x, acc, Ms, _, by rw [← rest_zero, HQ2.out, HA.out], rfl, ?_, ?_⟩
        · exact ((HRw.out.kept (grown_set _ ⟨w.heap.size, 0, none⟩ _) (fun k e => by cases e; exact hw23)).kept (grown_set _ ⟨w.heap.size, 1, none⟩ _) (fun k e => by cases e; exact hw23)).mono (by omega)
        · exact (HB.out.setCell (p := ⟨w.heap.size, 0, none⟩) (Nat.le_refl _) _).setCell (p := ⟨w.heap.size, 1, none⟩) (Nat.le_refl _) _
      · obtain ⟨b, t, rfl, hb, hcell⟩ := id hv
        have HO3 : Hid (Own25 w3 w.heap.size) := hideP (HO2.out.kept hg (by simp))
        have HB : Hid (Below w.heap.size w w3) := hideP (((start_below w _ _).grown HM2.out.grown (by rw [World.size_alloc, World.size_alloc]; omega) (fun k e => by cases e; omega)).grown hg (by have := HM2.out.grown.size; rw [World.size_alloc, World.size_alloc] at this; omega) (fun k e => by cases e; omega))
        have o0 := HO3.out.c0
        have o1 := HO3.out.c1
        have o2 := HO3.out.f0
        have o3 := HO3.out.f1
        have HA := hideP hall
        clear hg hall
        go_wp2_with fail
        refine bodyPost_ret (by simp [Go.results, Tryf.results5, go_sem, o0, o1]; try rfl) rfl ?_
        refine Or.inr ⟨x, 59, _, by rw [← rest_zero, HQ2.out, HA.out], rfl, ?_⟩
        exact (HB.out.setCell (p := ⟨w.heap.size, 0, none⟩) (Nat.le_refl _) _).setCell (p := ⟨w.heap.size, 1, none⟩) (Nat.le_refl _) _
    · obtain ⟨b, t, rfl, hb, hcell⟩ := id hv
      have HO2 : Hid (Own25 w2 w.heap.size) := hideP (HO1.out.kept hg (by simp))
      have HB : Hid (Below w.heap.size w w2) := hideP (((start_below w _ _).grown HM1.out.grown (by rw [World.size_alloc, World.size_alloc]; omega) (fun k e => by cases e; omega)).grown hg (by have := HM1.out.grown.size; rw [World.size_alloc, World.size_alloc] at this; omega) (fun k e => by cases e; omega))
      have HF2 : Hid (F.answers w2.tape) := hideP (by rw [hg.tape]; exact HF1.out)
      have HA := hideP (parse_bad (F := Fu) (n := n) HQ1.out hval)
      have Hb := hideP hb
      have Hcell := hideP hcell
      clear hg hval hb hcell
      go_wp2_with (go_at_call 10; refine (errorf_id F _ b t _ (by exact HF2.out) (alloc_cell _ _ 0 _ _ rfl) (by rw [((Below.refl w2.heap.size w2).alloc (Nat.le_refl _) _).cell (p := ⟨b, 0, none⟩) Hb.out]; exact Hcell.out)).mono ?_)
      rintro e w3 ⟨T, y, rfl, hb3⟩
      have HO3 : Hid (Own25 w3 w.heap.size) := hideP (HO2.out.kept (row := none) (grown_below (World.grownBy.refl _ _) (Nat.le_refl _) (((Below.refl w2.heap.size w2).alloc (Nat.le_refl _) _).trans (hb3.mono (by simp)))) (by simp))
      have HB3 : Hid (Below w.heap.size w w3) := hideP (HB.out.trans ((((Below.refl w2.heap.size w2).alloc (Nat.le_refl _) _).trans (hb3.mono (by simp))).mono (Nat.le_of_lt HO2.out.lt)))
      have o0 := HO3.out.c0
      have o1 := HO3.out.c1
      have o2 := HO3.out.f0
      have o3 := HO3.out.f1
      clear hb3
      go_wp2_with fail
      refine bodyPost_ret (by simp [Go.results, Tryf.results5, go_sem, o0, o1]; try rfl) rfl ?_
      refine Or.inr ⟨[], T, y, by rw [← rest_zero, HA.out], rfl, ?_⟩
      exact (HB3.out.setCell (p := ⟨w.heap.size, 0, none⟩) (Nat.le_refl _) _).setCell (p := ⟨w.heap.size, 1, none⟩) (Nat.le_refl _) _
  · obtain ⟨b, t, rfl, hb, hcell⟩ := id hv
    have HO1 : Hid (Own25 w1 w.heap.size) := hideP ((start_own w s).kept hg (by simp))
    have HB : Hid (Below w.heap.size w w1) := hideP ((start_below w _ _).grown hg (by rw [World.size_alloc, World.size_alloc]; omega) (fun k e => by cases e; omega))
    have HA := hideP (parse_none (F := Fu) (n := n) hq)
    have o0 := HO1.out.c0
    have o1 := HO1.out.c1
    have o2 := HO1.out.f0
    have o3 := HO1.out.f1
    clear hg hq
    go_wp2_with fail
    refine bodyPost_ret (by simp [Go.results, Tryf.results5, go_sem, o0, o1]; try rfl) rfl ?_
    refine Or.inr ⟨[], 59, _, by rw [← rest_zero, HA.out], rfl, ?_⟩
    exact (HB.out.setCell (p := ⟨w.heap.size, 0, none⟩) (Nat.le_refl _) _).setCell (p := ⟨w.heap.size, 1, none⟩) (Nat.le_refl _) _
end Go.Proofs.Qxb6614847aFmt
