/-
  formatJoin over a row of strings, by its contract: for @sh and for @tsv.   PRINTED BY this repo's wip/mk_fj.py.
-/
import Derived.Test.YtnmmdhgdcdhpnaaGreatFmtW2
namespace Go.Proofs.YtnmmdhgdcdhpnaaGreatFmt
open Go Go.RowKit
open Go.Lib (byteCells byteCells_length byteCells_append)

set_option maxRecDepth 100000 in
set_option maxHeartbeats 1600000 in
theorem shJoin_any (a : Option Addr) (cap : Nat) (ss : List ByteArray) (w : World) (hl : ss.length ≤ 65536) (hsz : ∀ s ∈ ss, s.size ≤ 1048576) (hlen : (Lib.join (ss.map shCell) [32]).length ≤ 140737488355328) (hrow : Row w a (anyS ss)) :
    Calls Tryz.prog 39 #[.string ⟨#[115, 104]⟩, .iface 40 (.slice a ss.length cap), .string ⟨#[32]⟩, .func (.func 40) #[] #[]] w (SaysAny w (Lib.join (ss.map shCell) [32])) := by
  obtain ⟨i0, hi, hz0, hz1, hz2⟩ := info_parts Tryz.infoStr
  have mk := fun (x : Value) (w : World) => run_makeInterface (P := Tryz.prog) w 9 x (by kernel_rfl)
  have t1 := a_arr
  have HS : Hid (∀ s ∈ ss, s.size ≤ 1048576) := hsz
  have HJ : Hid ((Lib.join (ss.map shCell) [32]).length ≤ 140737488355328) := hlen
  clear hsz hlen
  go_enter Tryz.func39, Tryz.ntmps39
  go_wp2_with (at_make; refine wpList_make_full _ rfl _ _ 22 rfl w.heap.size 9 i0 (.string ⟨#[]⟩) 1 Tryz.underlying22 hi hz0 hz1 _ _ _ _ ss.length rfl rfl rfl rfl ?c1 ?c2 ?c3 ?_)
  case c1 => rw [hz2]; omega
  case c2 => unfold maxLen; omega
  case c3 => omega
  intro w1 hown hgrow
  have hb : Below w.heap.size w w1 := (Below.refl _ _).grown hgrow (Nat.le_refl _) (by intro k hk; cases hk)
  have hown' : w1.ownsRow w.heap.size 9 1 (.slice (some ⟨w.heap.size, 0, none⟩) ss.length ss.length) ss.length (filled (strV (cellsT shCell ss)) (.string ⟨#[]⟩) 0) := by
    rw [filled_zero, strV_len, cellsT_len]
    simpa [Value.cells, toList_madeCells_one] using hown
  clear hown hgrow
  go_wp2
  go_loopw [36] (fun i wr => ∃ k : Nat, k ≤ ss.length ∧ i = .int .i64 k ∧ wr.ownsRow w.heap.size 9 1 (.slice (some ⟨w.heap.size, 0, none⟩) ss.length ss.length) ss.length (filled (strV (cellsT shCell ss)) (.string ⟨#[]⟩) k) ∧ Below w.heap.size w wr)
    (fun i _ => ss.length - (intOf i).toNat)
  case atStart => exact ⟨0, by omega, rfl, hown', hb⟩
  case round =>
    clear hown' hb
    obtain ⟨k, hk, rfl, hown, hb⟩ := hrel
    by_cases hlt : k < ss.length
    · obtain ⟨b, off, rfl, hbw, hc⟩ := hrow.at (k := k) (by simpa [anyS] using hlt)
      have hck : wr.cell? ⟨b, off + k, none⟩ = some (.iface 9 (.string ss[k])) := (hb.cell (p := ⟨b, off + k, none⟩) hbw).trans (hc k _ (anyS_get ss hlt))
      have hB : w.heap.size < wr.heap.size := (hown.lt _ rfl).2
      have e1 := fun (v : Value) (w : World) => s_arr v w
      have e2 := fun (v : Value) (w : World) => s_map v w
      have e3 := fun (v : Value) (w : World) => s_str v w
      clear hc
      go_wp2_with fail
      refine (shClosure_any ss[k] wr (HS.out _ (List.getElem_mem _))).mono ?_
      rintro e w2 ⟨rfl, hb2⟩
      have hown2 := own_below' hown hb2
      have hb3 := hb.trans (hb2.mono (Nat.le_of_lt hB))
      have hc2 : w2.cell? ⟨w.heap.size, k, none⟩ = some (.string ⟨#[]⟩) := by rw [hown2.cellAt k (by omega)]; exact filled_at _ _ _ (by simpa [strV, cellsT] using hlt)
      have hf2 := hown2.frozenAt k
      obtain ⟨R1, R2⟩ := fill_step hown2 hb3 (cellsT_get shCell ss hlt)
      clear hown hown2 hb hb2 hb3 hck
      go_wp2
      go_roundw
      case rel => exact ⟨k + 1, by omega, by go_num, R1, R2⟩
      case measure => simp [intOf]; omega
    · have hk' : k = ss.length := by omega
      subst hk'
      have e := filled_all (strV (cellsT shCell ss)) (.string ⟨#[]⟩)
      rw [strV_len, cellsT_len] at e
      rw [e] at hown
      have hB : w.heap.size < wr.heap.size := (hown.lt _ rfl).2
      go_wp2_with fail
      have hj := Tryz.strings_Join w.heap.size 0 ss.length (cellsT shCell ss) ⟨#[32]⟩ wr (fun j x hx => by
        have hjl : j < ss.length := by have := (List.getElem?_eq_some_iff.1 hx).1; rwa [cellsT_len] at this
        rw [Nat.zero_add, hown.cellAt j (by omega), strV, List.getElem?_map, hx]; rfl) hB (by rw [cellsT_len]; omega) (by rw [cellsT_len]; exact Nat.le_refl _) (by rw [cellsT_lists]; exact HJ.out)
      rw [cellsT_lists, cellsT_len] at hj
      refine hj.mono ?_
      rintro e w2 ⟨rfl, hb2⟩
      clear hj
      have hb3 := hb.trans (hb2.mono (Nat.le_of_lt hB))
      have hm : ∀ w, (Instr.makeInterface 9 (.string ⟨(Lib.join (ss.map shCell) [32]).toArray⟩)).run Tryz.prog w = .ok (.iface 9 (.string (txt (Lib.join (ss.map shCell) [32])))) w := fun w => mk _ w
      go_wp2
      go_ret
      exact ⟨rfl, hb3⟩

set_option maxRecDepth 100000 in
set_option maxHeartbeats 1600000 in
theorem tsvJoin_any (a : Option Addr) (cap : Nat) (ss : List ByteArray) (w : World) (hl : ss.length ≤ 65536) (hsz : ∀ s ∈ ss, s.size ≤ 1048576) (hlen : (Lib.join (ss.map tsvCell) [9]).length ≤ 140737488355328) (hrow : Row w a (anyS ss)) :
    Calls Tryz.prog 39 #[.string ⟨#[116, 115, 118]⟩, .iface 40 (.slice a ss.length cap), .string ⟨#[9]⟩, .func (.func 42) #[] #[]] w (SaysAny w (Lib.join (ss.map tsvCell) [9])) := by
  obtain ⟨i0, hi, hz0, hz1, hz2⟩ := info_parts Tryz.infoStr
  have mk := fun (x : Value) (w : World) => run_makeInterface (P := Tryz.prog) w 9 x (by kernel_rfl)
  have t1 := a_arr
  have HS : Hid (∀ s ∈ ss, s.size ≤ 1048576) := hsz
  have HJ : Hid ((Lib.join (ss.map tsvCell) [9]).length ≤ 140737488355328) := hlen
  clear hsz hlen
  go_enter Tryz.func39, Tryz.ntmps39
  go_wp2_with (at_make; refine wpList_make_full _ rfl _ _ 22 rfl w.heap.size 9 i0 (.string ⟨#[]⟩) 1 Tryz.underlying22 hi hz0 hz1 _ _ _ _ ss.length rfl rfl rfl rfl ?c1 ?c2 ?c3 ?_)
  case c1 => rw [hz2]; omega
  case c2 => unfold maxLen; omega
  case c3 => omega
  intro w1 hown hgrow
  have hb : Below w.heap.size w w1 := (Below.refl _ _).grown hgrow (Nat.le_refl _) (by intro k hk; cases hk)
  have hown' : w1.ownsRow w.heap.size 9 1 (.slice (some ⟨w.heap.size, 0, none⟩) ss.length ss.length) ss.length (filled (strV (cellsT tsvCell ss)) (.string ⟨#[]⟩) 0) := by
    rw [filled_zero, strV_len, cellsT_len]
    simpa [Value.cells, toList_madeCells_one] using hown
  clear hown hgrow
  go_wp2
  go_loopw [36] (fun i wr => ∃ k : Nat, k ≤ ss.length ∧ i = .int .i64 k ∧ wr.ownsRow w.heap.size 9 1 (.slice (some ⟨w.heap.size, 0, none⟩) ss.length ss.length) ss.length (filled (strV (cellsT tsvCell ss)) (.string ⟨#[]⟩) k) ∧ Below w.heap.size w wr)
    (fun i _ => ss.length - (intOf i).toNat)
  case atStart => exact ⟨0, by omega, rfl, hown', hb⟩
  case round =>
    clear hown' hb
    obtain ⟨k, hk, rfl, hown, hb⟩ := hrel
    by_cases hlt : k < ss.length
    · obtain ⟨b, off, rfl, hbw, hc⟩ := hrow.at (k := k) (by simpa [anyS] using hlt)
      have hck : wr.cell? ⟨b, off + k, none⟩ = some (.iface 9 (.string ss[k])) := (hb.cell (p := ⟨b, off + k, none⟩) hbw).trans (hc k _ (anyS_get ss hlt))
      have hB : w.heap.size < wr.heap.size := (hown.lt _ rfl).2
      have e1 := fun (v : Value) (w : World) => s_arr v w
      have e2 := fun (v : Value) (w : World) => s_map v w
      have e3 := fun (v : Value) (w : World) => s_str v w
      clear hc
      go_wp2_with fail
      refine (tsvEscape_any ss[k] wr (HS.out _ (List.getElem_mem _))).mono ?_
      rintro e w2 ⟨rfl, hb2⟩
      have hown2 := own_below' hown hb2
      have hb3 := hb.trans (hb2.mono (Nat.le_of_lt hB))
      have hc2 : w2.cell? ⟨w.heap.size, k, none⟩ = some (.string ⟨#[]⟩) := by rw [hown2.cellAt k (by omega)]; exact filled_at _ _ _ (by simpa [strV, cellsT] using hlt)
      have hf2 := hown2.frozenAt k
      obtain ⟨R1, R2⟩ := fill_step hown2 hb3 (cellsT_get tsvCell ss hlt)
      clear hown hown2 hb hb2 hb3 hck
      go_wp2
      go_roundw
      case rel => exact ⟨k + 1, by omega, by go_num, R1, R2⟩
      case measure => simp [intOf]; omega
    · have hk' : k = ss.length := by omega
      subst hk'
      have e := filled_all (strV (cellsT tsvCell ss)) (.string ⟨#[]⟩)
      rw [strV_len, cellsT_len] at e
      rw [e] at hown
      have hB : w.heap.size < wr.heap.size := (hown.lt _ rfl).2
      go_wp2_with fail
      have hj := Tryz.strings_Join w.heap.size 0 ss.length (cellsT tsvCell ss) ⟨#[9]⟩ wr (fun j x hx => by
        have hjl : j < ss.length := by have := (List.getElem?_eq_some_iff.1 hx).1; rwa [cellsT_len] at this
        rw [Nat.zero_add, hown.cellAt j (by omega), strV, List.getElem?_map, hx]; rfl) hB (by rw [cellsT_len]; omega) (by rw [cellsT_len]; exact Nat.le_refl _) (by rw [cellsT_lists]; exact HJ.out)
      rw [cellsT_lists, cellsT_len] at hj
      refine hj.mono ?_
      rintro e w2 ⟨rfl, hb2⟩
      clear hj
      have hb3 := hb.trans (hb2.mono (Nat.le_of_lt hB))
      have hm : ∀ w, (Instr.makeInterface 9 (.string ⟨(Lib.join (ss.map tsvCell) [9]).toArray⟩)).run Tryz.prog w = .ok (.iface 9 (.string (txt (Lib.join (ss.map tsvCell) [9])))) w := fun w => mk _ w
      go_wp2
      go_ret
      exact ⟨rfl, hb3⟩

end Go.Proofs.YtnmmdhgdcdhpnaaGreatFmt
