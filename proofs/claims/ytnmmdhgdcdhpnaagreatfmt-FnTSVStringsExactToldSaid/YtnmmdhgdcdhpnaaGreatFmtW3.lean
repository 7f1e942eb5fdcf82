/-
  @sh and @tsv of a row of strings, from the exported call down: what the call answers.   PRINTED BY this repo's wip/mk_w3.py.
-/
import Derived.Test.YtnmmdhgdcdhpnaaGreatFmtFj
import Derived.Test.YtnmmdhgdcdhpnaaGreatFmtW1
namespace Go.Proofs.YtnmmdhgdcdhpnaaGreatFmt
open Go Go.RowKit
open Go.Lib (byteCells byteCells_length byteCells_append)

/-- The answer '(text, true)'. -/
def SaysOk (w : World) (l : List UInt8) (e : Ending) (w' : World) : Prop := e = .returned (.tuple #[.string (txt l), .bool true]) ∧ Below w.heap.size w w'

theorem asString_any (t : ByteArray) (w : World) :
    Calls Tryz.prog 32 #[.iface 9 (.string t)] w fun e w' => e = .returned (.tuple #[.string t, .bool true]) ∧ w = w' := by
  have e3 := fun (v : Value) (w : World) => s_str v w
  go_enter Tryz.func32, Tryz.ntmps32
  go_wp2
  go_ret2
  exact ⟨rfl, rfl⟩

set_option maxHeartbeats 800000 in
theorem funcToSh_any (a : Option Addr) (cap : Nat) (ss : List ByteArray) (w : World) (hl : ss.length ≤ 65536) (hsz : ∀ s ∈ ss, s.size ≤ 1048576) (hlen : (Lib.join (ss.map shCell) [32]).length ≤ 140737488355328) (hrow : Row w a (anyS ss)) :
    Calls Tryz.prog 33 #[.iface 40 (.slice a ss.length cap)] w (SaysAny w (Lib.join (ss.map shCell) [32])) := by
  have e3 := fun (v : Value) (w : World) => a_arr v w
  have HJ := shJoin_any a cap ss w hl hsz hlen hrow
  have HJ' : Hid (Calls Tryz.prog 39 _ w _) := HJ
  clear HJ hsz hlen
  go_enter Tryz.func33, Tryz.ntmps33
  go_wp2_with fail
  refine HJ'.out.mono ?_
  rintro e w' ⟨rfl, hb⟩
  go_wp2
  go_ret
  exact ⟨rfl, hb⟩

set_option maxHeartbeats 800000 in
theorem ZZToShStrings_n001_75_any (a : Option Addr) (cap : Nat) (ss : List ByteArray) (w : World) (hl : ss.length ≤ 65536) (hsz : ∀ s ∈ ss, s.size ≤ 1048576) (hlen : (Lib.join (ss.map shCell) [32]).length ≤ 140737488355328) (hrow : Row w a (strV ss)) :
    Calls Tryz.prog 13 #[.slice a ss.length cap] w (SaysOk w (Lib.join (ss.map shCell) [32])) := by
  have mk := fun (x : Value) (w : World) => run_makeInterface (P := Tryz.prog) w 40 x (by kernel_rfl)
  go_enter Tryz.func13, Tryz.ntmps13
  go_wp2_with fail
  refine (stringsOf_any a cap ss w hl hrow).mono ?_
  rintro e w1 ⟨a1, cap1, n, hn, rfl, hown, hb, _⟩
  rw [anyS_len] at hn
  subst hn
  have hrow1 : Row w1 a1 (anyS ss) := row_of_owns (base := w.heap.size) (e := 20) (cap := cap1) (by rw [anyS_len]; exact hown)
  go_wp2_with fail
  refine (funcToSh_any a1 cap1 ss w1 hl hsz hlen hrow1).mono ?_
  rintro e w2 ⟨rfl, hb2⟩
  have hb3 := hb.trans (hb2.mono hb.size)
  clear hb hb2 hown hrow1 hrow hsz hlen
  go_wp2_with fail
  refine (asString_any _ w2).mono ?_
  rintro e w3 ⟨rfl, rfl⟩
  go_wp2
  go_ret2
  exact ⟨rfl, hb3⟩

set_option maxHeartbeats 800000 in
theorem funcToTSV_any (a : Option Addr) (cap : Nat) (ss : List ByteArray) (w : World) (hl : ss.length ≤ 65536) (hsz : ∀ s ∈ ss, s.size ≤ 1048576) (hlen : (Lib.join (ss.map tsvCell) [9]).length ≤ 140737488355328) (hrow : Row w a (anyS ss)) :
    Calls Tryz.prog 35 #[.iface 40 (.slice a ss.length cap)] w (SaysAny w (Lib.join (ss.map tsvCell) [9])) := by
  have e3 := fun (v : Value) (w : World) => a_arr v w
  have HJ := tsvJoin_any a cap ss w hl hsz hlen hrow
  have HJ' : Hid (Calls Tryz.prog 39 _ w _) := HJ
  clear HJ hsz hlen
  go_enter Tryz.func35, Tryz.ntmps35
  go_wp2_with fail
  refine HJ'.out.mono ?_
  rintro e w' ⟨rfl, hb⟩
  go_wp2
  go_ret
  exact ⟨rfl, hb⟩

set_option maxHeartbeats 800000 in
theorem ZZToTSVStrings_n001_75_any (a : Option Addr) (cap : Nat) (ss : List ByteArray) (w : World) (hl : ss.length ≤ 65536) (hsz : ∀ s ∈ ss, s.size ≤ 1048576) (hlen : (Lib.join (ss.map tsvCell) [9]).length ≤ 140737488355328) (hrow : Row w a (strV ss)) :
    Calls Tryz.prog 16 #[.slice a ss.length cap] w (SaysOk w (Lib.join (ss.map tsvCell) [9])) := by
  have mk := fun (x : Value) (w : World) => run_makeInterface (P := Tryz.prog) w 40 x (by kernel_rfl)
  go_enter Tryz.func16, Tryz.ntmps16
  go_wp2_with fail
  refine (stringsOf_any a cap ss w hl hrow).mono ?_
  rintro e w1 ⟨a1, cap1, n, hn, rfl, hown, hb, _⟩
  rw [anyS_len] at hn
  subst hn
  have hrow1 : Row w1 a1 (anyS ss) := row_of_owns (base := w.heap.size) (e := 20) (cap := cap1) (by rw [anyS_len]; exact hown)
  go_wp2_with fail
  refine (funcToTSV_any a1 cap1 ss w1 hl hsz hlen hrow1).mono ?_
  rintro e w2 ⟨rfl, hb2⟩
  have hb3 := hb.trans (hb2.mono hb.size)
  clear hb hb2 hown hrow1 hrow hsz hlen
  go_wp2_with fail
  refine (asString_any _ w2).mono ?_
  rintro e w3 ⟨rfl, rfl⟩
  go_wp2
  go_ret2
  exact ⟨rfl, hb3⟩

end Go.Proofs.YtnmmdhgdcdhpnaaGreatFmt
