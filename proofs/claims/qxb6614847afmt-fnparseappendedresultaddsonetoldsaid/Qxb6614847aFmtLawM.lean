/-
  The walk of the second law's function.
-/
import Derived.Test.Qxb6614847aFmtLawT
namespace Go.Proofs.Qxb6614847aFmt
open Go.RowKit Go.Extern.Stop Go.Stop Go.Extern Go.Maps

theorem zzb_yes (s : ByteArray) (w : World) (h : s.size ≤ 1048576) : Calls Tryf.prog 7 #[.string s] w fun e w' => e = .returned (.bool true) ∧ w' = w := by
  have t0 : decide ((1048576 : Int) < (s.size : Int)) = false := decide_eq_false (by omega)
  go_enter Tryf.func7, Tryf.ntmps7
  go_wp2
  go_ret
  exact ⟨rfl, rfl⟩
theorem zzb_no (s : ByteArray) (w : World) (h : 1048576 < s.size) : Calls Tryf.prog 7 #[.string s] w fun e w' => e = .returned (.bool false) ∧ w' = w := by
  have t0 : (1048576 : Int) < (s.size : Int) := by omega
  go_enter Tryf.func7, Tryf.ntmps7
  go_wp2
  go_ret
  exact ⟨rfl, rfl⟩
theorem more_no (s : ByteArray) (w : World) (h : 1048576 < s.size) : Calls Tryf.prog 4 #[.string s] w fun e w' => e = .returned (.bool true) ∧ Below w.heap.size w w' := by
  go_enter Tryf.func4, Tryf.ntmps4
  go_wp2_with (go_at_call 7; refine (zzb_no s _ h).mono ?_; rintro e w2 ⟨rfl, hw⟩; have hw2 := hw.symm; subst hw2)
  go_ret
  exact ⟨rfl, Below.refl _ _⟩
theorem flat_get : ∀ (rs : List Res) (Ms : List Nat), rs.length = Ms.length → ∀ (k : Nat) (r : Res) (M : Nat), rs[k]? = some r → Ms[k]? = some M → ∀ (j : Nat) (u : Value), (cells3 r M)[j]? = some u → (flat rs Ms)[k * 3 + j]? = some u
  | [], _, _, k, r, M, h, _, _, _, _ => by simp at h
  | _ :: _, [], h, _, _, _, _, _, _, _, _ => by simp at h
  | r0 :: rs, M0 :: Ms, h, k, r, M, h1, h2, j, u, h3 => by
    have hj : j < 3 := (List.getElem?_eq_some_iff.mp h3).1
    show (cells3 r0 M0 ++ flat rs Ms)[k * 3 + j]? = some u
    cases k with
    | zero =>
      simp at h1 h2
      subst h1 h2
      rw [Nat.zero_mul, Nat.zero_add, List.getElem?_append_left (show j < (cells3 r0 M0).length from hj)]
      exact h3
    | succ k =>
      rw [List.getElem?_append_right (show (cells3 r0 M0).length ≤ _ by show 3 ≤ _; omega)]
      have e : (k + 1) * 3 + j - (cells3 r0 M0).length = k * 3 + j := by show (k + 1) * 3 + j - 3 = _; omega
      rw [e]
      exact flat_get rs Ms (by simpa using h) k r M (by simpa using h1) (by simpa using h2) j u h3
/-- A result of the row, in memory. -/
theorem rows_at {base : Nat} {w : World} {ao : Option Addr} {n cap : Nat} {acc : List Res} {Ms : List Nat} (h : RowsAt base w (.slice ao n cap) acc Ms) {k : Nat} {r : Res} (hk : acc[k]? = some r) :
    ∃ g M, ao = some ⟨g, 0, none⟩ ∧ w.cell? ⟨g, k * 3, none⟩ = some (.string ⟨r.1.toArray⟩) ∧ w.cell? ⟨g, k * 3 + 1, none⟩ = some (.string ⟨r.2.1.toArray⟩) ∧ w.cell? ⟨g, k * 3 + 2, none⟩ = some (.map (some M)) ∧ MapAt w M r.2.2 := by
  have hlt : k < acc.length := (List.getElem?_eq_some_iff.mp hk).1
  have hne : acc.length ≠ 0 := by omega
  obtain ⟨g, cap', cur, hv, _⟩ : ∃ g cap' cur, Value.slice ao n cap = .slice (some ⟨g, 0, none⟩) acc.length cap' ∧ base ≤ g ∧ w.heap[g]? = some (.cells cur 34 (0, 0)) := by
    rcases h.row.2 with ⟨_, h0⟩ | ⟨g, cap', cur, h1, h2, h3, _⟩
    · exact absurd h0 hne
    · exact ⟨g, cap', cur, h1, h2, h3⟩
  injection hv with h1 h2 h3
  subst h1
  have hM : k < Ms.length := by rw [← h.len]; exact hlt
  have hMk : Ms[k]? = some Ms[k] := List.getElem?_eq_getElem hM
  have hc := h.row.cells (g := g) rfl
  have hadd : ∀ j, (⟨g, 0, none⟩ : Addr).add j = ⟨g, j, none⟩ := fun j => by unfold Addr.add; split <;> simp_all
  have hf : ∀ j u, (cells3 r Ms[k])[j]? = some u → (flat acc Ms)[k * 3 + j]? = some u := flat_get acc Ms h.len k r _ hk hMk
  refine ⟨g, Ms[k], rfl, ?_, ?_, ?_, h.maps k r _ hk hMk⟩
  · have := hc (k * 3 + 0) _ (hf 0 _ rfl); rw [hadd] at this; exact this
  · have := hc (k * 3 + 1) _ (hf 1 _ rfl); rw [hadd] at this; exact this
  · have := hc (k * 3 + 2) _ (hf 2 _ rfl); rw [hadd] at this; exact this
theorem map_len {w : World} {M : Nat} {ps : Props} (h : MapAt w M ps) (ty : TypeId) : (Builtin.len_ #[32] ty #[.map (some M)]).run Tryf.prog w = .ok (.int .i64 (Maps.size (dat ps))) w := World.ownsMap.len h Tryf.underlying32 ty
theorem added_cat (s : ByteArray) : (s ++ (⟨#[59, 32, 115, 112, 102, 61, 112, 97, 115, 115, 32, 115, 109, 116, 112, 46, 109, 97, 105, 108, 102, 114, 111, 109, 61, 97]⟩ : ByteArray)).data.toList = s.data.toList ++ added := by
  rw [ByteArray.data_append, Array.toList_append]
  rfl
theorem added_size (s : ByteArray) : (s ++ (⟨#[59, 32, 115, 112, 102, 61, 112, 97, 115, 115, 32, 115, 109, 116, 112, 46, 109, 97, 105, 108, 102, 114, 111, 109, 61, 97]⟩ : ByteArray)).size = s.size + 26 := by
  rw [ByteArray.size_append]
  rfl
theorem below_after {w W W' : World} (h : Below w.heap.size w W) (hg : W.grownBy W' none) : Below w.heap.size w W' :=
  ⟨hg.os.trans h.os, hg.tape.trans h.tape, hg.output.trans h.output, Nat.le_trans h.size hg.size, fun k hk => (hg.block k (Nat.lt_of_lt_of_le hk h.size) (by simp)).trans (h.block k hk)⟩
theorem spf_look {w : World} {M : Nat} (h : MapAt w M spf.2.2) : (Instr.lookup 32 (.map (some M)) (.string ⟨#[115, 109, 116, 112, 46, 109, 97, 105, 108, 102, 114, 111, 109]⟩) true).run Tryf.prog w = .ok (.tuple #[.string ⟨#[97]⟩, .bool true]) w := by
  obtain ⟨v, q, h1, h2⟩ := World.ownsMap.look_ok h keyLaw Tryf.underlying32 (zero9 w) (plainElem_string Tryf.underlying9 (by decide)) (WideMaps.keyOf_string_mk (s := ⟨#[115, 109, 116, 112, 46, 109, 97, 105, 108, 102, 114, 111, 109]⟩) Tryf.underlying9 (by decide))
  obtain ⟨sv, rfl, h3, _⟩ := plainElem_string_inv Tryf.underlying9 h2
  have h4 := congrArg Prod.fst h3
  have h5 : (dat spf.2.2).atKey (.string (⟨#[115, 109, 116, 112, 46, 109, 97, 105, 108, 102, 114, 111, 109]⟩ : ByteArray).data.toList) (.lit (.string (⟨#[]⟩ : ByteArray).data.toList)) = .lit (.string [97]) := by kernel_rfl
  have h6 : (DataW.lit (H := Unit) (.string [97])) = .lit (.string sv.data.toList) := h5.symm.trans h4
  have h7 : [97] = sv.data.toList := by injection h6 with h6; injection h6
  have h8 : sv = ⟨#[97]⟩ := by rw [← bytes_eta sv, ← h7]
  subst h8
  rw [h1]
  have h9 : has (dat spf.2.2) (.string (⟨#[115, 109, 116, 112, 46, 109, 97, 105, 108, 102, 114, 111, 109]⟩ : ByteArray).data.toList) = true := by kernel_rfl
  rw [h9]
def intN : Value → Nat
  | .int _ q => q.toNat
  | _ => 0
theorem more_below {w w1 w3 : World} {o1 : Obj} (h1 : Below w.heap.size w w1) (h2 : Below (w1.alloc o1).heap.size (w1.alloc o1) w3) (o2 : Obj) (k : Nat) : Below w.heap.size w ((w3.alloc o2).drewN k) := by
  have h3 := (h1.alloc h1.size o1).trans (h2.mono (by rw [World.size_alloc]; have := h1.size; omega))
  have h4 := h3.alloc h3.size o2
  exact ⟨h4.os, h4.tape, h4.output, h4.size, h4.block⟩
theorem results_len (Fu : Nat) : ∀ (n : Nat) (acc l : _) (out : List Res), results Fu n acc l = some out → out.length ≤ acc.length + l.length := by
  intro n
  induction n with
  | zero => intro acc l out h; cases h
  | succ n ih =>
    intro acc l out h
    match l, h with
    | [], h => rw [← Option.some.inj h]; exact Nat.le_add_right _ _
    | c :: r, h =>
      change (if c :: r = [] then _ else if some c = some 59 then (space r).bind _ else none) = some out at h
      rw [if_neg (by simp)] at h
      by_cases hc : some c = some 59
      · rw [if_pos hc] at h
        obtain ⟨l1, h1, h⟩ := bind_some h
        have e1 := space_len h1
        by_cases hs : stopL l1 = true
        · rw [if_pos hs] at h
          have := ih acc l1 out h
          rw [List.length_cons]
          omega
        · rw [if_neg hs] at h
          obtain ⟨x, h2, h⟩ := bind_some h
          have e2 := result_len h2
          have e3 := ih _ _ out h
          have e4 : x.1.toList.length ≤ 1 := by cases x.1 <;> simp
          rw [List.length_append] at e3
          rw [List.length_cons]
          omega
      · rw [if_neg hc] at h; cases h
theorem acc_len {Fu n : Nat} {s : ByteArray} {id : List UInt8} {acc : List Res} (h : parse Fu n s.data.toList = (id, some acc)) (hs : s.size ≤ 1048576) : acc.length ≤ 1048577 := by
  have h1 : ∀ (l : List UInt8), allRes Fu n l = some acc → acc.length ≤ l.length := by
    intro l h
    unfold allRes at h
    obtain ⟨l1, h1, h⟩ := bind_some h
    obtain ⟨l2, h2, h⟩ := bind_some h
    have e1 := space_len h1
    have e2 : l2.length ≤ l1.length := by
      split at h2
      · exact Nat.le_trans (space_len h2) (drop_len digB l1)
      · rw [← Option.some.inj h2]; exact Nat.le_refl _
    have e3 := results_len Fu n [] l2 acc h
    simp at e3
    omega
  unfold parse at h
  split at h
  · cases congrArg Prod.snd h
  · rename_i l hl
    split at h
    · cases congrArg Prod.snd h
    · rename_i x hx
      have e4 := h1 _ (congrArg Prod.snd h)
      have e5 := space_len hl
      have e6 := val_len hx
      have e7 : s.data.toList.length = s.size := by simp
      omega
set_option maxHeartbeats 8000000 in
set_option maxRecDepth 20000 in
theorem more_yes (F : Interp) (f n : Nat) (hf : 2097152 ≤ f) (hn : 2097152 ≤ n) (s : ByteArray) (w : World) (hF : F.answers w.tape) (h : s.size ≤ 1048576) : Calls Tryf.prog 4 #[.string s] w fun e w' => e = .returned (.bool true) ∧ Below w.heap.size w w' := by
  have t0 : decide ((1048576 : Int) < (s.size : Int)) = false := decide_eq_false (by omega)
  have tk : ¬ 9223372036854775807 < s.size + 26 := by omega
  have HF := hideP hF
  have HP := hideP (parse_more f n 0 s.data.toList (by show s.size < n; omega))
  clear hF
  go_enter Tryf.func4, Tryf.ntmps4
  go_wp2_with (first | (go_at_call 7; refine (zzb_yes s _ h).mono ?_; rintro e w2 ⟨rfl, hw⟩; have hw2 := hw.symm; subst hw2) | (go_at_call 5; refine (parse_full F (f + 2) n s _ (by exact HF.out) (by omega) (by omega) (by omega)).mono ?_))
  rintro e w1 (⟨id, acc, Ms, sv, hp, rfl, hrows, hb⟩ | ⟨id, T, x, hp, rfl, hb⟩)
  · obtain ⟨ao, cap, rfl⟩ := hrows.shape
    have Hp := hideP hp
    have Hb := hideP hb
    have Hrw := hideP hrows
    have HF1 : Hid (F.answers w1.tape) := hideP (by rw [hb.tape]; exact HF.out)
    clear hp hb hrows
    go_wp2_with (go_at_call 5; refine (parse_full F (f + 2) (n + 2) _ _ (by exact HF1.out) (by rw [added_size]; omega) (by rw [added_size]; omega) (by rw [added_size]; omega)).mono ?_)
    rintro e w3 (⟨id2, acc2, Ms2, sv2, hp2, rfl, hrows2, hb2⟩ | ⟨id2, T2, x2, hp2, rfl, hb2⟩)
    · rw [added_cat] at hp2
      have e1 := HP.out.symm.trans hp2
      rw [Hp.out] at e1
      obtain rfl : id = id2 := congrArg Prod.fst e1
      obtain rfl : acc ++ [spf] = acc2 := Option.some.inj (congrArg Prod.snd e1)
      obtain ⟨ao2, cap2, rfl⟩ := hrows2.shape
      have Hb2 := hideP hb2
      have Hrw2 := hideP hrows2
      have hlt3 : w1.heap.size < w3.heap.size := Nat.lt_of_lt_of_le (by rw [World.size_alloc]; omega) hb2.size
      have a0 : w3.cell? ⟨w1.heap.size, 0, none⟩ = some (.string ⟨id.toArray⟩) := (hb2.cell (p := ⟨w1.heap.size, 0, none⟩) (by rw [World.size_alloc]; show w1.heap.size < _; omega)).trans (alloc_cell _ _ 0 _ _ rfl)
      have a1 : w3.cell? ⟨w1.heap.size, 1, none⟩ = some (.slice ao acc.length cap) := (hb2.cell (p := ⟨w1.heap.size, 1, none⟩) (by rw [World.size_alloc]; show w1.heap.size < _; omega)).trans (alloc_cell _ _ 1 _ _ rfl)
      have hne3 : ¬ w1.heap.size = w3.heap.size := by omega
      have hl2 : (acc ++ [spf]).length = acc.length + 1 := by simp
      rw [hl2]
      rw [hl2] at Hrw2
      have hal : acc.length ≤ 1048577 := acc_len Hp.out h
      have tl : (((acc.length + 1 : Nat) : Int) == ((acc.length : Int) + 1)) = true := by rw [beq_iff_eq]; omega
      clear hp2 e1 hb2 hrows2 hl2
      go_wp2_with fail
      go_quiet (fail)
      go_wp2_with fail
      generalize hW : (w3.alloc _).drewN nq = WL
      have HBL : Hid (Below w.heap.size w WL) := by rw [← hW]; exact hideP (more_below Hb.out Hb2.out _ _)
      have b1 : Hid (WL.cell? ⟨w1.heap.size, 1, none⟩ = some (.slice ao acc.length cap)) := by
        rw [← hW]
        exact hideP ((((Below.refl w3.heap.size w3).alloc (Nat.le_refl _) _).cell (p := ⟨w1.heap.size, 1, none⟩) hlt3).trans a1)
      have g1 : Hid (WL.cell? ⟨w3.heap.size, 1, none⟩ = some (.slice ao2 (acc.length + 1) cap2)) := by
        rw [← hW]
        exact hideP (alloc_cell _ _ 1 _ _ rfl)
      have Hr1 : Hid (RowsAt w.heap.size WL (.slice ao acc.length cap) acc Ms) := by
        rw [← hW]
        exact hideP (((Hrw.out.kept (World.grownBy_alloc _ _ none) (fun _ e => nomatch e)).kept (row := none) (grown_below (World.grownBy.refl _ _) (Nat.le_refl _) Hb2.out) (fun _ e => nomatch e)).kept (row := none) ((World.grownBy_alloc _ _ none).trans grown_weak) (fun _ e => nomatch e))
      have Hr2 : Hid (RowsAt (w1.alloc (.cells #[.string ⟨id.toArray⟩, .slice ao acc.length cap] 25)).heap.size WL (.slice ao2 (acc.length + 1) cap2) (acc ++ [spf]) Ms2) := by
        rw [← hW]
        exact hideP (Hrw2.out.kept (row := none) ((World.grownBy_alloc _ _ none).trans grown_weak) (fun _ e => nomatch e))
      clear hW a0 a1 hne3 Hrw Hrw2
      go_loopw [8] (fun iv wr => ∃ k : Nat, iv = .int .i64 (k : Int) ∧ k ≤ acc.length ∧ Hid (WL.grownBy wr none)) (fun iv _ => acc.length - intN iv)
      case atStart => exact ⟨0, rfl, Nat.zero_le _, hideP (World.grownBy.refl _ _)⟩
      case round =>
        obtain ⟨k, rfl, hk, HG⟩ := hrel
        have l1 : wr.cell? ⟨w1.heap.size, 1, none⟩ = some (.slice ao acc.length cap) := HG.out.cell b1.out (by simp)
        have l2 : wr.cell? ⟨w3.heap.size, 1, none⟩ = some (.slice ao2 (acc.length + 1) cap2) := HG.out.cell g1.out (by simp)
        have Hra := hideP (Hr1.out.kept HG.out (fun _ e => nomatch e))
        have Hrb := hideP (Hr2.out.kept HG.out (fun _ e => nomatch e))
        by_cases hlt : k < acc.length
        · have ht : (k : Int) < (acc.length : Int) := by omega
          obtain ⟨r, hr⟩ : ∃ r, acc[k]? = some r := ⟨_, List.getElem?_eq_getElem hlt⟩
          have hr2 : (acc ++ [spf])[k]? = some r := by rw [List.getElem?_append_left hlt]; exact hr
          obtain ⟨g, M, rfl, c0, c1, c2, hm⟩ := rows_at Hra.out hr
          obtain ⟨g2, M2, rfl, d0, d1, d2, hm2⟩ := rows_at Hrb.out hr2
          have q1 : w3.heap.size < wr.heap.size := World.block_lt_of_cell? _ _ l2
          have q1n : ¬ w3.heap.size = wr.heap.size := by omega
          have q2 : g2 < wr.heap.size := World.block_lt_of_cell? _ _ d0
          have q2n : ¬ g2 = wr.heap.size := by omega
          have ht2 : (k : Int) < (acc.length : Int) + 1 := by omega
          have hlA := map_len ((hm.kept (World.grownBy_alloc wr (.cells #[.string ⟨r.1.toArray⟩, .string ⟨r.2.1.toArray⟩, .map (some M)] 34) none) (by simp)).kept (World.grownBy_alloc _ (.cells #[.string ⟨r.1.toArray⟩, .string ⟨r.2.1.toArray⟩, .map (some M2)] 34) none) (by simp))
          have hlB := map_len ((hm2.kept (World.grownBy_alloc wr (.cells #[.string ⟨r.1.toArray⟩, .string ⟨r.2.1.toArray⟩, .map (some M)] 34) none) (by simp)).kept (World.grownBy_alloc _ (.cells #[.string ⟨r.1.toArray⟩, .string ⟨r.2.1.toArray⟩, .map (some M2)] 34) none) (by simp))
          clear hm hm2 hr hr2
          go_wp2_with fail
          go_roundw
          case rel => exact ⟨k + 1, rfl, by omega, hideP ((HG.out.trans (World.grownBy_alloc _ _ none)).trans (World.grownBy_alloc _ _ none))⟩
          case measure => show acc.length - intN (.int .i64 ((k : Int) + 1)) < acc.length - intN (.int .i64 (k : Int)); unfold intN; simp only; omega
        · have ht : decide ((k : Int) < (acc.length : Int)) = false := decide_eq_false (by omega)
          have hr2 : (acc ++ [spf])[acc.length]? = some spf := by rw [List.getElem?_append_right (Nat.le_refl _), Nat.sub_self]; rfl
          obtain ⟨g2, M2, rfl, d0, d1, d2, hm2⟩ := rows_at Hrb.out hr2
          have ht2 : (acc.length : Int) < (acc.length : Int) + 1 := by omega
          have d0' : wr.cell? ⟨g2, acc.length * 3, none⟩ = some (.string ⟨#[115, 112, 102]⟩) := d0
          have d1' : wr.cell? ⟨g2, acc.length * 3 + 1, none⟩ = some (.string ⟨#[112, 97, 115, 115]⟩) := d1
          have hmk := hm2.kept (World.grownBy_alloc wr (.cells #[.string ⟨#[115, 112, 102]⟩, .string ⟨#[112, 97, 115, 115]⟩, .map (some M2)] 34) none) (by simp)
          have hlB : ∀ ty, (Builtin.len_ #[32] ty #[.map (some M2)]).run Tryf.prog (wr.alloc (.cells #[.string ⟨#[115, 112, 102]⟩, .string ⟨#[112, 97, 115, 115]⟩, .map (some M2)] 34)) = .ok (.int .i64 1) (wr.alloc (.cells #[.string ⟨#[115, 112, 102]⟩, .string ⟨#[112, 97, 115, 115]⟩, .map (some M2)] 34)) := fun ty => map_len hmk ty
          have hlk := spf_look hmk
          have HBe := hideP (below_after HBL.out HG.out)
          clear hm2 hmk hr2 d0 d1
          go_wp2_with fail
          go_ret
          exact ⟨rfl, HBe.out.alloc HBe.out.size _⟩
    · rw [added_cat] at hp2
      have e1 := HP.out.symm.trans hp2
      rw [Hp.out] at e1
      exact absurd (congrArg Prod.snd e1) (by simp [plus])
  · have Hp := hideP hp
    have Hb := hideP hb
    have HF1 : Hid (F.answers w1.tape) := hideP (by rw [hb.tape]; exact HF.out)
    clear hp hb
    go_wp2_with (go_at_call 5; refine (parse_full F (f + 2) (n + 2) _ _ (by exact HF1.out) (by rw [added_size]; omega) (by rw [added_size]; omega) (by rw [added_size]; omega)).mono ?_)
    rintro e w3 (⟨id2, acc2, Ms2, sv2, hp2, rfl, hrows2, hb2⟩ | ⟨id2, T2, x2, hp2, rfl, hb2⟩)
    · rw [added_cat] at hp2
      have e1 := HP.out.symm.trans hp2
      rw [Hp.out] at e1
      exact absurd (congrArg Prod.snd e1) (by simp [plus])
    · rw [added_cat] at hp2
      have e1 := HP.out.symm.trans hp2
      rw [Hp.out] at e1
      obtain rfl : id = id2 := congrArg Prod.fst e1
      have Hb2 := hideP hb2
      have hlt3 : w1.heap.size < w3.heap.size := Nat.lt_of_lt_of_le (by rw [World.size_alloc]; omega) hb2.size
      have a0 : w3.cell? ⟨w1.heap.size, 0, none⟩ = some (.string ⟨id.toArray⟩) := (hb2.cell (p := ⟨w1.heap.size, 0, none⟩) (by rw [World.size_alloc]; show w1.heap.size < _; omega)).trans (alloc_cell _ _ 0 _ _ rfl)
      have a1 : w3.cell? ⟨w1.heap.size, 1, none⟩ = some (.slice none 0 0) := (hb2.cell (p := ⟨w1.heap.size, 1, none⟩) (by rw [World.size_alloc]; show w1.heap.size < _; omega)).trans (alloc_cell _ _ 1 _ _ rfl)
      have hne3 : ¬ w1.heap.size = w3.heap.size := by omega
      clear hp2 e1 hb2
      go_wp2_with fail
      go_quiet (fail)
      go_wp2_with fail
      go_ret
      exact ⟨rfl, more_below Hb.out Hb2.out _ _⟩
end Go.Proofs.Qxb6614847aFmt
