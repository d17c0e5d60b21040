/-
  number, by one contract.
-/
import Derived.Test.Qxb6613685aGreatFmtNum
import Derived.Test.Qxb6613685aGreatFmtGood
namespace Go.Proofs.Qxb6613685aGreatFmt
open Go.RowKit
open Go.Lib hiding intOf

def zeroV : Value := .agg #[.int .u8 0, .int .i64 0, .string ⟨#[]⟩, .int .i64 0, .bool false, .slice none 0 0]
def formV (line : Int) (f : Form) : Value := .agg #[.int .u8 (f.1 : Int), .int .i64 line, .string (str f.2.1), .int .i64 f.2.2.1, .bool f.2.2.2, .slice none 0 0]
/-- What a token reads as, handed back: the form, or the zero form and some error. -/
def retV (line : Int) (o : Option Form) (e : Ending) : Prop := match o with
  | some f => e = .returned (.tuple #[formV line f, .nilIface])
  | none => ∃ a, e = .returned (.tuple #[zeroV, .iface 47 (.pointer (some a))])
def AtomRet (line : Int) (o : Option Form) (w : World) (e : Ending) (w' : World) : Prop := retV line o e ∧ Below w.heap.size w w'
theorem ret_some {line : Int} {f : Form} {o : Option Form} {w w' : World} {e : Ending} (ho : o = some f) (h : e = .returned (.tuple #[formV line f, .nilIface]) ∧ Below w.heap.size w w') : AtomRet line o w e w' := by
  rw [ho]; exact h
theorem ret_none {line : Int} {o : Option Form} {w w' : World} {e : Ending} (ho : o = none) (h : (∃ a, e = .returned (.tuple #[zeroV, .iface 47 (.pointer (some a))])) ∧ Below w.heap.size w w') : AtomRet line o w e w' := by
  rw [ho]; exact h

theorem trim_drop (l cs : List UInt8) : l.drop (l.length - (trimLeftS l cs).length) = trimLeftS l cs := by
  obtain ⟨P, hP⟩ : ∃ P, l.takeWhile (cs.contains ·) = P := ⟨_, rfl⟩
  obtain ⟨d, hd⟩ : ∃ d, trimLeftS l cs = d := ⟨_, rfl⟩
  have e1 : P ++ d = l := by rw [← hP, ← hd]; exact List.takeWhile_append_dropWhile
  rw [hd, ← e1, List.length_append, show P.length + d.length - d.length = P.length by omega, List.drop_left]
theorem trim_le (l cs : List UInt8) : (trimLeftS l cs).length ≤ l.length := (List.dropWhile_sublist _).length_le
theorem extract_drop (d : ByteArray) (k : Nat) : (d.extract k d.size).data.toList = d.data.toList.drop k := by
  simp [ByteArray.data_extract, List.take_of_length_le]
theorem bytes_eq {a b : ByteArray} (h : a.data.toList = b.data.toList) : a = b := by
  cases a with | mk a => cases b with | mk b => exact congrArg ByteArray.mk (Array.toList_inj.mp h)
theorem list_empty {r : ByteArray} : r.toList = [] ↔ r.data.toList = [] := by rw [list_data]
theorem head_zero (d : ByteArray) (h0 : 0 < d.size) : d.data.toList.head? = some d[0] := by rw [head_some d h0]; rfl

/-- number. -/
theorem number_any (B b o cap : Nat) (line : Int) (s : ByteArray) (x : Addr) (w : World) (hc0 : Came w B b o cap line s) (hv : w.var? Tryz.prog "strconv.ErrRange" = some #[.iface 87 (.pointer (some x))]) (hcond : numCond s.data.toList = true) :
    Calls Tryz.prog 16 #[.pointer (some ⟨B, 0, none⟩)] w (AtomRet line (numL s.data.toList) w) := by
  have hss := hc0.size
  cases hsm : smallL s.data.toList with
  | some n =>
    have hL : numL s.data.toList = some (2, [], n, true) := by unfold numL; rw [hsm]
    exact (num_S B b o cap line s x w hc0 hv n hsm).mono fun e w' h => ret_some hL h
  | none =>
    obtain ⟨d, hd⟩ : ∃ d, str (trimLeftS s.data.toList signs) = d := ⟨_, rfl⟩
    have hdl : d.data.toList = trimLeftS s.data.toList signs := by rw [← hd]; rfl
    have hds : d.size = (trimLeftS s.data.toList signs).length := by rw [← hd]; rfl
    have hdle : d.size ≤ s.size := by rw [hds, ← data_length]; exact trim_le _ _
    by_cases hA : d.size + 1 < s.size
    · have hL : numL s.data.toList = none := by
        unfold numL; rw [hsm]; simp only; rw [if_pos (by rw [← hds, data_length]; exact hA)]
      exact (num_A B b o cap line s x w hc0 hv hsm d hd hA (by omega)).mono fun e w' h => ret_none hL h
    · obtain ⟨r, hr⟩ : ∃ r, str (trimLeftS d.data.toList digs) = r := ⟨_, rfl⟩
      have hrl : r.data.toList = trimLeftS d.data.toList digs := by rw [← hr]; rfl
      have hrs : r.size = (trimLeftS d.data.toList digs).length := by rw [← hr]; rfl
      have hrle : r.size ≤ d.size := by rw [hrs, ← data_length]; exact trim_le _ _
      have hx : d.extract (d.size - r.size) d.size = r := bytes_eq (by
        rw [extract_drop, hrl, hrs, ← data_length]; exact trim_drop _ _)
      have hL : numL s.data.toList = numTail s.data.toList d.data.toList r.data.toList := by
        unfold numL; rw [hsm]; simp only
        rw [if_neg (by rw [← hds, data_length]; exact hA), ← hdl, ← hrl]
      have h3 : decide ((d.size : Int) < (s.size : Int) - 1) = false := decide_eq_false (by omega)
      have hk : (d.size : Int) - (r.size : Int) = ((d.size - r.size : Nat) : Int) := by omega
      rw [hL]
      clear hL
      -- the two ways behind the whole digits
      by_cases hW : 1 < d.size - r.size
      · have k0 : 0 < d.size := by omega
        by_cases h48 : (d[0].toNat : Int) = 48
        · have hN : numTail s.data.toList d.data.toList r.data.toList = none := by
            unfold numTail
            rw [if_pos ⟨by rw [data_length, data_length]; exact hW, by rw [head_zero d k0]; exact congrArg some (byte_eq h48)⟩]
          exact (num_B B b o cap line s x w hc0 hv hsm d hd h3 r hr _ hk (by omega) hx (by omega) (by omega) (by omega) hW k0 h48).mono fun e w' h => ret_none hN h
        · have hN : numTail s.data.toList d.data.toList r.data.toList = if r.data.toList = [] ∨ r.data.toList = [78] then
                match parseIntB 64 (trimSuffix s.data.toList [78]) with
                | .ok n => some (2, [], n, true)
                | .range => some (2, s.data.toList, 0, false)
                | _ => none
              else if r.data.toList.head? = some 47 ∧ 1 < r.data.toList.length ∧ trimS r.data.toList.tail digs = [] then some (3, s.data.toList, 0, false)
              else if floatL r.data.toList = true then some (3, s.data.toList, 0, false)
              else none := by
            unfold numTail
            rw [if_neg (fun h => byte_ne (b := 48) h48 (by rw [← head_zero d k0]; exact h.2))]
            rfl
          rw [hN]
          clear hN
          have hts : (str (trimSuffix s.data.toList [78])).size ≤ 131072 := by
            rw [str_size]; have := trimSuffix_len s.data.toList [78]; rw [data_length] at this; omega
          by_cases hr0 : r.data.toList = []
          · have hg := parse_good hcond (by rw [← hds, data_length]; exact hA) (by rw [← hdl, ← hrl]; exact .inl hr0)
            rw [if_pos (.inl hr0)]
            rcases hg with ⟨n, hg⟩ | hg
            · rw [hg]
              exact (num_zeO B b o cap line s x w hc0 hv hsm d hd h3 r hr _ hk (by omega) hx (by omega) (by omega) (by omega) hW k0 h48 (beq_no h48) (list_empty.mpr hr0) _ rfl hts n hg).mono fun e w' h => ret_some rfl h
            · rw [hg]
              exact (num_zeR B b o cap line s x w hc0 hv hsm d hd h3 r hr _ hk (by omega) hx (by omega) (by omega) (by omega) hW k0 h48 (beq_no h48) (list_empty.mpr hr0) _ rfl hts hg).mono fun e w' h => ret_some rfl h
          by_cases hr78 : r.data.toList = [78]
          · have hg := parse_good hcond (by rw [← hds, data_length]; exact hA) (by rw [← hdl, ← hrl]; exact .inr hr78)
            rw [if_pos (.inr hr78)]
            rcases hg with ⟨n, hg⟩ | hg
            · rw [hg]
              exact (num_znO B b o cap line s x w hc0 hv hsm d hd h3 r hr _ hk (by omega) hx (by omega) (by omega) (by omega) hW k0 h48 (beq_no h48) ((list_data r).trans hr78) _ rfl hts n hg).mono fun e w' h => ret_some rfl h
            · rw [hg]
              exact (num_znR B b o cap line s x w hc0 hv hsm d hd h3 r hr _ hk (by omega) hx (by omega) (by omega) (by omega) hW k0 h48 (beq_no h48) ((list_data r).trans hr78) _ rfl hts hg).mono fun e w' h => ret_some rfl h
          rw [if_neg (by rw [not_or]; exact ⟨hr0, hr78⟩)]
          have r1 : ¬ r.toList = [] := by rw [list_data]; exact hr0
          have r2 : ¬ r.toList = [78] := by rw [list_data]; exact hr78
          have r4 : (r.toList == [78]) = false := by rw [beq_eq_false_iff_ne]; exact r2
          have r0 := size_of r1
          by_cases h47 : (r[0].toNat : Int) = 47
          · have hh : r.data.toList.head? = some 47 := by rw [head_zero r r0]; exact congrArg some (byte_eq h47)
            by_cases hl1 : 1 < r.size
            · by_cases hm : trimS r.data.toList.tail digs = []
              · rw [if_pos ⟨hh, by rw [data_length]; exact hl1, hm⟩]
                exact (num_zsT B b o cap line s x w hc0 hv hsm d hd h3 r hr _ hk (by omega) hx (by omega) (by omega) (by omega) hW k0 h48 (beq_no h48) r1 r2 (nonempty_of r1) r4 r0 h47 (by omega) hl1 _ rfl (by rw [list_data, str_data, tail_data]; exact hm)).mono fun e w' h => ret_some rfl h
              · rw [if_neg (fun h => hm h.2.2)]
                have hm2 : ¬ (str (trimS (r.extract 1 r.size).data.toList digs)).toList = [] := by rw [list_data, str_data, tail_data]; exact hm
                by_cases hf : floatL r.data.toList = true
                · rw [if_pos hf]
                  exact (num_zcT B b o cap line s x w hc0 hv hsm d hd h3 r hr _ hk (by omega) hx (by omega) (by omega) (by omega) hW k0 h48 (beq_no h48) r1 r2 (nonempty_of r1) r4 r0 h47 (by omega) hl1 _ rfl hm2 (nonempty_of hm2) hf).mono fun e w' h => ret_some rfl h
                · rw [if_neg hf]
                  exact (num_zcF B b o cap line s x w hc0 hv hsm d hd h3 r hr _ hk (by omega) hx (by omega) (by omega) (by omega) hW k0 h48 (beq_no h48) r1 r2 (nonempty_of r1) r4 r0 h47 (by omega) hl1 _ rfl hm2 (nonempty_of hm2) (Bool.eq_false_iff.mpr hf)).mono fun e w' h => ret_none rfl h
            · rw [if_neg (fun h => hl1 (by have := h.2.1; rw [data_length] at this; exact this))]
              by_cases hf : floatL r.data.toList = true
              · rw [if_pos hf]
                exact (num_zbT B b o cap line s x w hc0 hv hsm d hd h3 r hr _ hk (by omega) hx (by omega) (by omega) (by omega) hW k0 h48 (beq_no h48) r1 r2 (nonempty_of r1) r4 r0 h47 (decide_eq_false (by omega)) hf).mono fun e w' h => ret_some rfl h
              · rw [if_neg hf]
                exact (num_zbF B b o cap line s x w hc0 hv hsm d hd h3 r hr _ hk (by omega) hx (by omega) (by omega) (by omega) hW k0 h48 (beq_no h48) r1 r2 (nonempty_of r1) r4 r0 h47 (decide_eq_false (by omega)) (Bool.eq_false_iff.mpr hf)).mono fun e w' h => ret_none rfl h
          · rw [if_neg (fun h => byte_ne (b := 47) h47 (by rw [← head_zero r r0]; exact h.1))]
            by_cases hf : floatL r.data.toList = true
            · rw [if_pos hf]
              exact (num_zaT B b o cap line s x w hc0 hv hsm d hd h3 r hr _ hk (by omega) hx (by omega) (by omega) (by omega) hW k0 h48 (beq_no h48) r1 r2 (nonempty_of r1) r4 r0 h47 (beq_no h47) hf).mono fun e w' h => ret_some rfl h
            · rw [if_neg hf]
              exact (num_zaF B b o cap line s x w hc0 hv hsm d hd h3 r hr _ hk (by omega) hx (by omega) (by omega) (by omega) hW k0 h48 (beq_no h48) r1 r2 (nonempty_of r1) r4 r0 h47 (beq_no h47) (Bool.eq_false_iff.mpr hf)).mono fun e w' h => ret_none rfl h
      · have k1 : decide ((1 : Int) < ((d.size - r.size : Nat) : Int)) = false := decide_eq_false (by omega)
        have hN : numTail s.data.toList d.data.toList r.data.toList = if r.data.toList = [] ∨ r.data.toList = [78] then
                match parseIntB 64 (trimSuffix s.data.toList [78]) with
                | .ok n => some (2, [], n, true)
                | .range => some (2, s.data.toList, 0, false)
                | _ => none
              else if r.data.toList.head? = some 47 ∧ 1 < r.data.toList.length ∧ trimS r.data.toList.tail digs = [] then some (3, s.data.toList, 0, false)
              else if floatL r.data.toList = true then some (3, s.data.toList, 0, false)
              else none := by
            unfold numTail
            rw [if_neg (fun h => hW (by have := h.1; rw [data_length, data_length] at this; exact this))]
            rfl
        rw [hN]
        clear hN
        have hts : (str (trimSuffix s.data.toList [78])).size ≤ 131072 := by
          rw [str_size]; have := trimSuffix_len s.data.toList [78]; rw [data_length] at this; omega
        by_cases hr0 : r.data.toList = []
        · have hg := parse_good hcond (by rw [← hds, data_length]; exact hA) (by rw [← hdl, ← hrl]; exact .inl hr0)
          rw [if_pos (.inl hr0)]
          rcases hg with ⟨n, hg⟩ | hg
          · rw [hg]
            exact (num_weO B b o cap line s x w hc0 hv hsm d hd h3 r hr _ hk (by omega) hx (by omega) (by omega) k1 (list_empty.mpr hr0) _ rfl hts n hg).mono fun e w' h => ret_some rfl h
          · rw [hg]
            exact (num_weR B b o cap line s x w hc0 hv hsm d hd h3 r hr _ hk (by omega) hx (by omega) (by omega) k1 (list_empty.mpr hr0) _ rfl hts hg).mono fun e w' h => ret_some rfl h
        by_cases hr78 : r.data.toList = [78]
        · have hg := parse_good hcond (by rw [← hds, data_length]; exact hA) (by rw [← hdl, ← hrl]; exact .inr hr78)
          rw [if_pos (.inr hr78)]
          rcases hg with ⟨n, hg⟩ | hg
          · rw [hg]
            exact (num_wnO B b o cap line s x w hc0 hv hsm d hd h3 r hr _ hk (by omega) hx (by omega) (by omega) k1 ((list_data r).trans hr78) _ rfl hts n hg).mono fun e w' h => ret_some rfl h
          · rw [hg]
            exact (num_wnR B b o cap line s x w hc0 hv hsm d hd h3 r hr _ hk (by omega) hx (by omega) (by omega) k1 ((list_data r).trans hr78) _ rfl hts hg).mono fun e w' h => ret_some rfl h
        rw [if_neg (by rw [not_or]; exact ⟨hr0, hr78⟩)]
        have r1 : ¬ r.toList = [] := by rw [list_data]; exact hr0
        have r2 : ¬ r.toList = [78] := by rw [list_data]; exact hr78
        have r4 : (r.toList == [78]) = false := by rw [beq_eq_false_iff_ne]; exact r2
        have r0 := size_of r1
        by_cases h47 : (r[0].toNat : Int) = 47
        · have hh : r.data.toList.head? = some 47 := by rw [head_zero r r0]; exact congrArg some (byte_eq h47)
          by_cases hl1 : 1 < r.size
          · by_cases hm : trimS r.data.toList.tail digs = []
            · rw [if_pos ⟨hh, by rw [data_length]; exact hl1, hm⟩]
              exact (num_wsT B b o cap line s x w hc0 hv hsm d hd h3 r hr _ hk (by omega) hx (by omega) (by omega) k1 r1 r2 (nonempty_of r1) r4 r0 h47 (by omega) hl1 _ rfl (by rw [list_data, str_data, tail_data]; exact hm)).mono fun e w' h => ret_some rfl h
            · rw [if_neg (fun h => hm h.2.2)]
              have hm2 : ¬ (str (trimS (r.extract 1 r.size).data.toList digs)).toList = [] := by rw [list_data, str_data, tail_data]; exact hm
              by_cases hf : floatL r.data.toList = true
              · rw [if_pos hf]
                exact (num_wcT B b o cap line s x w hc0 hv hsm d hd h3 r hr _ hk (by omega) hx (by omega) (by omega) k1 r1 r2 (nonempty_of r1) r4 r0 h47 (by omega) hl1 _ rfl hm2 (nonempty_of hm2) hf).mono fun e w' h => ret_some rfl h
              · rw [if_neg hf]
                exact (num_wcF B b o cap line s x w hc0 hv hsm d hd h3 r hr _ hk (by omega) hx (by omega) (by omega) k1 r1 r2 (nonempty_of r1) r4 r0 h47 (by omega) hl1 _ rfl hm2 (nonempty_of hm2) (Bool.eq_false_iff.mpr hf)).mono fun e w' h => ret_none rfl h
          · rw [if_neg (fun h => hl1 (by have := h.2.1; rw [data_length] at this; exact this))]
            by_cases hf : floatL r.data.toList = true
            · rw [if_pos hf]
              exact (num_wbT B b o cap line s x w hc0 hv hsm d hd h3 r hr _ hk (by omega) hx (by omega) (by omega) k1 r1 r2 (nonempty_of r1) r4 r0 h47 (decide_eq_false (by omega)) hf).mono fun e w' h => ret_some rfl h
            · rw [if_neg hf]
              exact (num_wbF B b o cap line s x w hc0 hv hsm d hd h3 r hr _ hk (by omega) hx (by omega) (by omega) k1 r1 r2 (nonempty_of r1) r4 r0 h47 (decide_eq_false (by omega)) (Bool.eq_false_iff.mpr hf)).mono fun e w' h => ret_none rfl h
        · rw [if_neg (fun h => byte_ne (b := 47) h47 (by rw [← head_zero r r0]; exact h.1))]
          by_cases hf : floatL r.data.toList = true
          · rw [if_pos hf]
            exact (num_waT B b o cap line s x w hc0 hv hsm d hd h3 r hr _ hk (by omega) hx (by omega) (by omega) k1 r1 r2 (nonempty_of r1) r4 r0 h47 (beq_no h47) hf).mono fun e w' h => ret_some rfl h
          · rw [if_neg hf]
            exact (num_waF B b o cap line s x w hc0 hv hsm d hd h3 r hr _ hk (by omega) hx (by omega) (by omega) k1 r1 r2 (nonempty_of r1) r4 r0 h47 (beq_no h47) (Bool.eq_false_iff.mpr hf)).mono fun e w' h => ret_none rfl h
end Go.Proofs.Qxb6613685aGreatFmt
