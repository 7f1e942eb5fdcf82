/-
  The guards and the copy of a row of strings: zzBytes, zzStrBytes, zzCloneStrs, by their contracts.
-/
import Derived.Test.YtnmmdhgdcdhpnaaGreatFmtProg
import Derived.Test.YtnmmdhgdcdhpnaaGreatFmtKit
import Derived.WalkSpells
import Derived.KernelRfl
namespace Go.Proofs.YtnmmdhgdcdhpnaaGreatFmt
open Go Go.RowKit

set_option maxHeartbeats 400000 in
theorem bytes_any (a : Option Addr) (cap : Nat) (ss : List ByteArray) (w : World) (hl : ss.length ≤ 140737488351232) (hrow : Row w a (strV ss)) :
    Calls Tryz.prog 10 #[.slice a ss.length cap] w fun e w' => SomeBool e ∧ w = w' := by
  go_enter Tryz.func10, Tryz.ntmps10
  go_wp2
  · go_ret
    exact ⟨⟨_, rfl⟩, rfl⟩
  · go_loop [3, 4] (fun z i => ∃ k n : Nat, k ≤ ss.length ∧ n ≤ 1048576 ∧ z = .int .i64 n ∧ i = .int .i64 k) (fun _ i => ss.length - (intOf i).toNat)
    case atStart => exact ⟨0, ss.length, by omega, by omega, rfl, rfl⟩
    case round =>
      obtain ⟨k, n, hk, hn, rfl, rfl⟩ := hrel
      by_cases hlt : k < ss.length
      · obtain ⟨b, off, rfl, hbw, hc⟩ := hrow.at (k := k) (by simpa [strV] using hlt)
        have hck := hc k _ (strV_get ss hlt)
        clear hc
        go_wp2
        all_goals first
          | (go_ret; exact ⟨⟨_, rfl⟩, rfl⟩)
          | (go_round
             case rel => exact ⟨k + 1, n + ss[k].size, by omega, by omega, by go_num, by go_num⟩
             case measure => simp [intOf]; omega)
      · go_wp2
        go_ret
        exact ⟨⟨_, rfl⟩, rfl⟩

/-- All bytes of the first k strings. -/
def total (ss : List ByteArray) : Nat := (ss.map ByteArray.size).sum
theorem total_succ (ss : List ByteArray) (k : Nat) (h : k < ss.length) : total (ss.take (k + 1)) = total (ss.take k) + ss[k].size := by
  unfold total
  rw [List.take_succ_eq_append_getElem h]
  simp only [List.map_append, List.map_cons, List.map_nil, List.sum_append, List.sum_cons, List.sum_nil, Nat.add_zero]
theorem total_take_all (ss : List ByteArray) : total (ss.take ss.length) = total ss := by simp

/-- What the measure of a row of strings answers: where it is at most 2^20 the row is short and its bytes are few. -/
def Measured (ss : List ByteArray) (e : Ending) : Prop := ∃ v : Int, e = .returned (.int .i64 v) ∧ (v ≤ 1048576 → ss.length ≤ 65536 ∧ v = 8 * ss.length + total ss) ∧ 0 ≤ v ∧ v ≤ 9223372036854775807

set_option maxRecDepth 100000 in
set_option maxHeartbeats 400000 in
theorem strBytes_any (a : Option Addr) (cap : Nat) (ss : List ByteArray) (w : World) (hl : ss.length ≤ 140737488351232) (hrow : Row w a (strV ss)) :
    Calls Tryz.prog 11 #[.slice a ss.length cap] w fun e w' => Measured ss e ∧ w = w' := by
  go_enter Tryz.func11, Tryz.ntmps11
  go_wp2
  · go_ret
    exact ⟨⟨_, rfl, by omega, by omega, by omega⟩, rfl⟩
  · have hl2 : ss.length ≤ 65536 := by omega
    go_loop [3, 4] (fun z i => ∃ k n : Nat, k ≤ ss.length ∧ n ≤ 1048576 ∧ n = 8 * ss.length + total (ss.take k) ∧ z = .int .i64 n ∧ i = .int .i64 k) (fun _ i => ss.length - (intOf i).toNat)
    case atStart => exact ⟨0, 8 * ss.length, by omega, by omega, by simp [total], by go_num, rfl⟩
    case round =>
      obtain ⟨k, n, hk, hn, he, rfl, rfl⟩ := hrel
      have HE : Hid (n = 8 * ss.length + total (ss.take k)) := he
      clear he
      by_cases hlt : k < ss.length
      · obtain ⟨b, off, rfl, hbw, hc⟩ := hrow.at (k := k) (by simpa [strV] using hlt)
        have hck := hc k _ (strV_get ss hlt)
        clear hc
        have HT : Hid (total (ss.take (k + 1)) = total (ss.take k) + ss[k].size) := total_succ ss k hlt
        go_wp2
        all_goals first
          | (go_ret; exact ⟨⟨_, rfl, by omega, by omega, by omega⟩, rfl⟩)
          | (go_round
             case rel => exact ⟨k + 1, n + ss[k].size, by omega, by omega, by rw [HT.out]; have := HE.out; omega, by go_num, by go_num⟩
             case measure => simp [intOf]; omega)
      · go_wp2
        go_ret
        have hk' : k = ss.length := by omega
        subst hk'
        have := HE.out
        rw [total_take_all] at this
        exact ⟨⟨_, rfl, fun _ => ⟨by omega, by omega⟩, by omega, by omega⟩, rfl⟩

theorem Tryz.info9x : (Tryz.prog.info? 9).map (fun i => (i.zero, i.size, i.bytes)) = some (some (.string ⟨#[]⟩), 1, 16) := by kernel_rfl

set_option maxRecDepth 100000 in
set_option maxHeartbeats 400000 in
theorem cloneStrs_any (a : Option Addr) (cap : Nat) (ss : List ByteArray) (w : World) (hl : ss.length ≤ 65536) (ha : a = none → ss = []) (hcap : a = none → cap = 0) (hrow : Row w a (strV ss)) :
    Calls Tryz.prog 12 #[.slice a ss.length cap] w (MadeRow w 9 (strV ss)) := by
  obtain ⟨i0, hi, hz0, hz1, hz2⟩ := info_parts Tryz.info9x
  have hq := fun (w : World) => Lib.run_eql_slice_nil (P := Tryz.prog) w 22 9 a ss.length cap 0 0 Tryz.underlying22
  go_enter Tryz.func12, Tryz.ntmps12
  cases a with
  | none =>
    obtain rfl := ha rfl
    obtain rfl := hcap rfl
    clear hq
    have hq := fun (w : World) => Lib.run_eql_slice_nil (P := Tryz.prog) w 22 9 none 0 0 0 0 Tryz.underlying22
    go_wp2
    go_ret
    exact ⟨none, 0, 0, rfl, rfl, World.ownsRow_nil _ _ _ _, Below.refl _ _, fun _ => ⟨rfl, rfl⟩⟩
  | some ad =>
    go_wp2_with (at_make; refine wpList_make_full _ rfl _ _ 22 rfl w.heap.size 9 i0 (.string ⟨#[]⟩) 1 Tryz.underlying22 hi hz0 hz1 _ _ _ _ ss.length rfl rfl rfl rfl ?c1 ?c2 ?c3 ?_)
    case c1 => rw [hz2]; omega
    case c2 => unfold maxLen; omega
    case c3 => omega
    intro w1 hown hgrow
    have hb : Below w.heap.size w w1 := (Below.refl _ _).grown hgrow (Nat.le_refl _) (by intro k hk; cases hk)
    have hown' : w1.ownsRow w.heap.size 9 1 (.slice (some ⟨w.heap.size, 0, none⟩) ss.length ss.length) ss.length (filled (strV ss) (.string ⟨#[]⟩) 0) := by
      rw [filled_zero, strV_len]
      simpa [Value.cells, toList_madeCells_one] using hown
    clear hown hgrow hq
    go_wp2
    go_loopw [4] (fun i wr => ∃ k : Nat, k ≤ ss.length ∧ i = .int .i64 k ∧ wr.ownsRow w.heap.size 9 1 (.slice (some ⟨w.heap.size, 0, none⟩) ss.length ss.length) ss.length (filled (strV ss) (.string ⟨#[]⟩) k) ∧ Below w.heap.size w wr)
      (fun i _ => ss.length - (intOf i).toNat)
    case atStart => exact ⟨0, by omega, rfl, hown', hb⟩
    case round =>
      clear hown' hb
      obtain ⟨k, hk, rfl, hown, hb⟩ := hrel
      by_cases hlt : k < ss.length
      · obtain ⟨b, off, had, hbw, hc⟩ := hrow.at (k := k) (by simpa [strV] using hlt)
        obtain rfl := Option.some.inj had
        have hck : wr.cell? ⟨b, off + k, none⟩ = some (.string ss[k]) := (hb.cell (p := ⟨b, off + k, none⟩) hbw).trans (hc k _ (strV_get ss hlt))
        have hc2 : wr.cell? ⟨w.heap.size, k, none⟩ = some (.string ⟨#[]⟩) := by rw [hown.cellAt k (by omega)]; exact filled_at _ _ _ (by simpa [strV] using hlt)
        have hf2 := hown.frozenAt k
        obtain ⟨R1, R2⟩ := fill_step hown hb (strV_get ss hlt)
        clear hc hown hb
        go_wp2
        go_roundw
        case rel => exact ⟨k + 1, by omega, by go_num, R1, R2⟩
        case measure => simp [intOf]; omega
      · go_wp2
        go_ret
        have hk' : k = ss.length := by omega
        subst hk'
        have e := filled_all (strV ss) (.string ⟨#[]⟩)
        rw [strV_len] at e
        rw [e] at hown
        exact ⟨some ⟨w.heap.size, 0, none⟩, ss.length, ss.length, (strV_len ss).symm, rfl, hown, hb, fun h => by cases h⟩
end Go.Proofs.YtnmmdhgdcdhpnaaGreatFmt
