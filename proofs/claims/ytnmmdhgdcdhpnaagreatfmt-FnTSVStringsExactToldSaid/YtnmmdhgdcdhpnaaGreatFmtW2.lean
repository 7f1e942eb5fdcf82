/-
  The road of @sh and @tsv over a row of strings: the row as []any, formatJoin over it, what the answer reads as.
-/
import Derived.Test.YtnmmdhgdcdhpnaaGreatFmtProg
import Derived.Test.YtnmmdhgdcdhpnaaGreatFmtEsc
import Derived.Test.YtnmmdhgdcdhpnaaGreatFmtJoin
import Derived.WalkSpells
import Derived.KernelRfl
namespace Go.Proofs.YtnmmdhgdcdhpnaaGreatFmt
open Go Go.RowKit
open Go.Lib (byteCells byteCells_length byteCells_append)

/-- Strings as interface values. -/
def anyS (ss : List ByteArray) : List Value := ss.map fun s => .iface 9 (.string s)
theorem anyS_get (ss : List ByteArray) {k : Nat} (h : k < ss.length) : (anyS ss)[k]? = some (.iface 9 (.string ss[k])) := by simp [anyS, h]
theorem anyS_len (ss : List ByteArray) : (anyS ss).length = ss.length := by simp [anyS]

theorem Tryz.infoAny : (Tryz.prog.info? 20).map (fun i => (i.zero, i.size, i.bytes)) = some (some .nilIface, 1, 16) := by kernel_rfl
theorem Tryz.infoStr : (Tryz.prog.info? 9).map (fun i => (i.zero, i.size, i.bytes)) = some (some (.string ⟨#[]⟩), 1, 16) := by kernel_rfl

set_option maxRecDepth 100000 in
set_option maxHeartbeats 400000 in
theorem stringsOf_any (a : Option Addr) (cap : Nat) (ss : List ByteArray) (w : World) (hl : ss.length ≤ 65536) (hrow : Row w a (strV ss)) :
    Calls Tryz.prog 34 #[.slice a ss.length cap] w (MadeRow w 20 (anyS ss)) := by
  obtain ⟨i0, hi, hz0, hz1, hz2⟩ := info_parts Tryz.infoAny
  have mk := fun (x : Value) (w : World) => run_makeInterface (P := Tryz.prog) w 9 x (by kernel_rfl)
  go_enter Tryz.func34, Tryz.ntmps34
  go_wp2_with (at_make; refine wpList_make_full _ rfl _ _ 40 rfl w.heap.size 20 i0 .nilIface 1 Tryz.underlying40 hi hz0 hz1 _ _ _ _ ss.length rfl rfl rfl rfl ?c1 ?c2 ?c3 ?_)
  case c1 => rw [hz2]; omega
  case c2 => unfold maxLen; omega
  case c3 => omega
  intro w1 hown hgrow
  have hb : Below w.heap.size w w1 := (Below.refl _ _).grown hgrow (Nat.le_refl _) (by intro k hk; cases hk)
  have hown' : w1.ownsRow w.heap.size 20 1 (.slice (some ⟨w.heap.size, 0, none⟩) ss.length ss.length) ss.length (filled (anyS ss) .nilIface 0) := by
    rw [filled_zero, anyS_len]
    simpa [Value.cells, toList_madeCells_one] using hown
  clear hown hgrow
  go_wp2
  go_loopw [10] (fun i wr => ∃ k : Nat, k ≤ ss.length ∧ i = .int .i64 k ∧ wr.ownsRow w.heap.size 20 1 (.slice (some ⟨w.heap.size, 0, none⟩) ss.length ss.length) ss.length (filled (anyS ss) .nilIface k) ∧ Below w.heap.size w wr)
    (fun i _ => ss.length - (intOf i).toNat)
  case atStart => exact ⟨0, by omega, rfl, hown', hb⟩
  case round =>
    clear hown' hb
    obtain ⟨k, hk, rfl, hown, hb⟩ := hrel
    by_cases hlt : k < ss.length
    · obtain ⟨b, off, rfl, hbw, hc⟩ := hrow.at (k := k) (by simpa [strV] using hlt)
      have hck : wr.cell? ⟨b, off + k, none⟩ = some (.string ss[k]) := (hb.cell (p := ⟨b, off + k, none⟩) hbw).trans (hc k _ (strV_get ss hlt))
      have hc2 : wr.cell? ⟨w.heap.size, k, none⟩ = some .nilIface := by rw [hown.cellAt k (by omega)]; exact filled_at _ _ _ (by simpa [anyS] using hlt)
      have hf2 := hown.frozenAt k
      obtain ⟨R1, R2⟩ := fill_step hown hb (anyS_get ss hlt)
      clear hc hown hb
      go_wp2
      go_roundw
      case rel => exact ⟨k + 1, by omega, by go_num, R1, R2⟩
      case measure => simp [intOf]; omega
    · go_wp2
      go_ret
      have hk' : k = ss.length := by omega
      subst hk'
      have e := filled_all (anyS ss) .nilIface
      rw [anyS_len] at e
      rw [e] at hown
      exact ⟨some ⟨w.heap.size, 0, none⟩, ss.length, ss.length, (anyS_len ss).symm, rfl, hown, hb, fun h => by cases h⟩

/-- One cell of @sh. -/
def shCell (s : ByteArray) : List UInt8 := 39 :: (s.data.toList.flatMap sh1 ++ [39])
def tsvCell (s : ByteArray) : List UInt8 := s.data.toList.flatMap tsv1

theorem shCell_len (s : ByteArray) : (shCell s).length ≤ 4 * s.size + 2 := by
  have h := flat_len sh1 4 sh1_len s.data.toList
  have h2 := len_toList s
  show (39 :: (_ ++ _)).length ≤ 4 * s.size + 2
  simp only [List.length_cons, List.length_append, List.length_nil]
  omega
theorem tsvCell_len (s : ByteArray) : (tsvCell s).length ≤ 4 * s.size := by
  have h := flat_len tsv1 4 tsv1_len s.data.toList
  have h2 := len_toList s
  show (s.data.toList.flatMap tsv1).length ≤ _
  omega

set_option maxHeartbeats 400000 in
theorem shClosure_any (s : ByteArray) (w : World) (hs : s.size ≤ 1048576) :
    Calls Tryz.prog 40 #[.string s] w (Says w (shCell s)) := by
  go_enter Tryz.func40, Tryz.ntmps40
  go_wp2_with fail
  refine (shEscape_any s w hs).mono ?_
  rintro e w' ⟨rfl, hb⟩
  have hts : (txt (s.data.toList.flatMap sh1)).size ≤ 4194304 := by
    have h := flat_len sh1 4 sh1_len s.data.toList
    have h2 := len_toList s
    rw [txt_size]; omega
  go_wp2
  go_ret
  refine ⟨?_, hb⟩
  show Ending.returned (.string (txt [39] ++ txt (s.data.toList.flatMap sh1) ++ txt [39])) = _
  rw [txt_append, txt_append]
  rfl

/-! The type switch of formatJoin, at a cell that is a string. -/
theorem s_arr (v : Value) (w : World) : (Instr.typeAssert (.iface 9 v) 20 40 true).run Tryz.prog w = .ok (.tuple #[.slice none 0 0, .bool false]) w := by kernel_rfl
theorem s_map (v : Value) (w : World) : (Instr.typeAssert (.iface 9 v) 20 48 true).run Tryz.prog w = .ok (.tuple #[.map none, .bool false]) w := by kernel_rfl
theorem s_str (v : Value) (w : World) : (Instr.typeAssert (.iface 9 v) 20 9 true).run Tryz.prog w = .ok (.tuple #[v, .bool true]) w := by kernel_rfl
theorem a_arr (v : Value) (w : World) : (Instr.typeAssert (.iface 40 v) 20 40 true).run Tryz.prog w = .ok (.tuple #[v, .bool true]) w := by kernel_rfl

/-- The texts of a row's cells. -/
def cellsT (f : ByteArray → List UInt8) (ss : List ByteArray) : List ByteArray := ss.map fun s => txt (f s)
theorem cellsT_len (f : ByteArray → List UInt8) (ss : List ByteArray) : (cellsT f ss).length = ss.length := by simp [cellsT]
theorem cellsT_get (f : ByteArray → List UInt8) (ss : List ByteArray) {k : Nat} (h : k < ss.length) : (strV (cellsT f ss))[k]? = some (.string (txt (f ss[k]))) := by simp [strV, cellsT, h]
theorem cellsT_lists (f : ByteArray → List UInt8) (ss : List ByteArray) : (cellsT f ss).map (·.data.toList) = ss.map f := by
  simp only [cellsT, List.map_map]
  exact List.map_congr_left fun s _ => rfl

/-- What formatJoin answers over a row of strings: a text in an interface value. -/
def SaysAny (w : World) (l : List UInt8) (e : Ending) (w' : World) : Prop := e = .returned (.iface 9 (.string (txt l))) ∧ Below w.heap.size w w'
end Go.Proofs.YtnmmdhgdcdhpnaaGreatFmt
