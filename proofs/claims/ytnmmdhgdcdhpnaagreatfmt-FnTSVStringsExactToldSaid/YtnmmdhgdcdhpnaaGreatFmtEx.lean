/-
  The laws FnShStringsExact and FnTSVStringsExact, walked: the guards, the copy, the call, and the statement's own text beside it.   PRINTED BY this repo's wip/mk_ex.py.
-/
import Derived.Test.YtnmmdhgdcdhpnaaGreatFmtW3
import Derived.Test.YtnmmdhgdcdhpnaaGreatFmtEscd
import Derived.Test.YtnmmdhgdcdhpnaaGreatFmtGd
namespace Go.Proofs.YtnmmdhgdcdhpnaaGreatFmt
open Go Go.RowKit
open Go.Lib (byteCells byteCells_length byteCells_append)

theorem joinTail_snoc (sep y : List UInt8) (r : List (List UInt8)) : Lib.joinTail sep (r ++ [y]) = Lib.joinTail sep r ++ sep ++ y := by simp [Lib.joinTail]
theorem join_snoc (xs : List (List UInt8)) (y sep : List UInt8) (h : xs ≠ []) : Lib.join (xs ++ [y]) sep = Lib.join xs sep ++ sep ++ y := by
  cases xs with
  | nil => exact absurd rfl h
  | cons x r => rw [List.cons_append, Lib.join_cons, joinTail_snoc, Lib.join_cons]; simp
/-- The first k cells, joined. -/
def joinK (f : ByteArray → List UInt8) (sep : UInt8) (ss : List ByteArray) (k : Nat) : List UInt8 := Lib.join ((ss.take k).map f) [sep]
theorem joinK_zero (f : ByteArray → List UInt8) (sep : UInt8) (ss : List ByteArray) : joinK f sep ss 0 = [] := by simp [joinK, Lib.join_nil]
theorem joinK_one (f : ByteArray → List UInt8) (sep : UInt8) (ss : List ByteArray) (h : 0 < ss.length) : joinK f sep ss 1 = joinK f sep ss 0 ++ f ss[0] := by
  rw [joinK_zero, List.nil_append]
  unfold joinK
  rw [List.take_succ_eq_append_getElem h]
  simp [Lib.join_one]
theorem joinK_succ (f : ByteArray → List UInt8) (sep : UInt8) (ss : List ByteArray) (k : Nat) (h : k < ss.length) (h0 : 0 < k) : joinK f sep ss (k + 1) = joinK f sep ss k ++ [sep] ++ f ss[k] := by
  unfold joinK
  rw [List.take_succ_eq_append_getElem h, List.map_append, List.map_cons, List.map_nil, join_snoc]
  intro e
  have := congrArg List.length e
  rw [List.length_map, List.length_take, List.length_nil] at this
  omega
theorem joinK_all (f : ByteArray → List UInt8) (sep : UInt8) (ss : List ByteArray) : joinK f sep ss ss.length = Lib.join (ss.map f) [sep] := by unfold joinK; rw [List.take_length]
theorem joinK_len (f : ByteArray → List UInt8) (sep : UInt8) (ss : List ByteArray) (hf : ∀ s, (f s).length ≤ 4 * s.size + 2) : ∀ k, (joinK f sep ss k).length ≤ 4 * total (ss.take k) + 3 * k := by
  intro k
  induction k with
  | zero => rw [joinK_zero]; simp
  | succ k ih =>
    by_cases hk : k < ss.length
    · have ht := total_succ ss k hk
      have h1 := hf ss[k]
      by_cases h0 : k = 0
      · subst h0
        rw [joinK_one f sep ss hk, List.length_append]; omega
      · rw [joinK_succ f sep ss k hk (by omega), List.length_append, List.length_append, List.length_singleton]; omega
    · have e1 : ss.take (k + 1) = ss := List.take_of_length_le (by omega)
      have e2 : ss.take k = ss := List.take_of_length_le (by omega)
      have e3 : joinK f sep ss (k + 1) = joinK f sep ss k := by unfold joinK; rw [e1, e2]
      rw [e3, e1]; rw [e2] at ih; omega
theorem total_take_le (ss : List ByteArray) (k : Nat) : total (ss.take k) ≤ total ss := by
  have h : total ss = total (ss.take k) + total (ss.drop k) := by
    unfold total
    rw [← List.sum_append, ← List.map_append, List.take_append_drop]
  omega
theorem size_le_total (ss : List ByteArray) (s : ByteArray) (h : s ∈ ss) : s.size ≤ total ss := by
  obtain ⟨l, r, rfl⟩ := List.append_of_mem h
  unfold total
  rw [List.map_append, List.map_cons, List.sum_append, List.sum_cons]; omega

/-- A law's end: true; what was there before is as it was. -/
def Holds (w : World) (e : Ending) (w' : World) : Prop := e = .returned (.bool true) ∧ Below w.heap.size w w'

set_option maxRecDepth 100000 in
set_option maxHeartbeats 3200000 in
theorem law_FnShStringsExact (a : Option Addr) (cap : Nat) (ss : List ByteArray) (w : World) (hl : ss.length ≤ 140737488351232) (ha : a = none → ss = []) (hcap : a = none → cap = 0) (hrow : Row w a (strV ss)) :
    Calls Tryz.prog 3 #[.slice a ss.length cap] w (Holds w) := by
  obtain ⟨i0, hi, hz0, hz1, hz2⟩ := info_parts Tryz.infoByte
  have HA : Hid (a = none → ss = []) := ha
  have HC : Hid (a = none → cap = 0) := hcap
  clear ha hcap
  go_enter Tryz.func3, Tryz.ntmps3
  go_wp2_with fail
  refine (bytes_FnShStringsExact a cap ss w hl hrow).mono ?_
  rintro e w' ⟨⟨b, rfl⟩, rfl⟩
  cases b with
  | false =>
    go_wp2
    go_ret
    exact ⟨rfl, Below.refl _ _⟩
  | true =>
  by_cases h16 : 65536 < ss.length
  · go_wp2_with fail
    go_ret
    exact ⟨rfl, Below.refl _ _⟩
  have hl2 : ss.length ≤ 65536 := by omega
  clear h16
  go_wp2_with fail
  refine (strBytes_any a cap ss w hl hrow).mono ?_
  rintro e w' ⟨⟨v, rfl, hv, hv0, hv1⟩, rfl⟩
  by_cases hbig : 1048576 < v
  · clear hv
    go_wp2_with fail
    go_ret
    exact ⟨rfl, Below.refl _ _⟩
  obtain ⟨_, hvt⟩ := hv (by omega)
  have htot : 8 * ss.length + total ss ≤ 1048576 := by omega
  have hv2 : v ≤ 1048576 := by omega
  clear hvt hbig
  go_wp2_with fail
  refine (cloneStrs_any a cap ss w hl2 HA.out HC.out hrow).mono ?_
  rintro e w2 ⟨a2, cap2, n, hn, rfl, hown2, hb2, hnil⟩
  rw [strV_len] at hn
  subst hn
  have hrow2 : Row w2 a2 (strV ss) := row_of_owns (base := w.heap.size) (e := 9) (cap := cap2) (by rw [strV_len]; exact hown2)
  have hsz : ∀ s ∈ ss, s.size ≤ 1048576 := fun s hs => by have := size_le_total ss s hs; omega
  have hJ : (Lib.join (ss.map shCell) [32]).length ≤ 140737488355328 := by
    have := joinK_len shCell 32 ss shCell_len ss.length
    rw [joinK_all, List.take_length] at this; omega
  have HSZ : Hid (∀ s ∈ ss, s.size ≤ 1048576) := hsz
  have HJ : Hid ((Lib.join (ss.map shCell) [32]).length ≤ 140737488355328) := hJ
  clear hsz hJ hown2 hnil hv
  go_wp2_with fail
  refine (ZZToShStrings_n001_75_any a2 cap2 ss w2 hl2 HSZ.out HJ.out hrow2).mono ?_
  rintro e w3 ⟨rfl, hb3⟩
  have hrow3 := hrow2.below (Nat.le_refl _) hb3
  have hb23 := hb2.trans (hb3.mono hb2.size)
  clear hrow hrow2 hb2 hb3
  have hw3 : w.heap.size ≤ w3.heap.size := hb23.size
  go_wp2_with (at_make; refine wpList_make_own _ rfl _ _ 28 rfl w3.heap.size 5 i0 (.int .u8 0) 1 Tryz.underlying28 hi hz0 hz1 _ _ _ 64 rfl rfl rfl ?c1 ?c2 ?c3 ?_)
  case c1 => rw [hz2]; omega
  case c2 => unfold maxLen; omega
  case c3 => omega
  intro w4 hown hgrow
  have hb4 : Below w3.heap.size w3 w4 := (Below.refl _ _).grown hgrow (Nat.le_refl _) (by intro k hk; cases hk)
  have hown' : w4.ownsRow w3.heap.size 5 1 (.slice (some ⟨w3.heap.size, 0, none⟩) 0 64) (joinK shCell 32 ss 0).length (byteCells (joinK shCell 32 ss 0)) := by rw [joinK_zero]; exact hown
  clear hown hgrow
  go_wp2
  go_loopw [5, 6] (fun v i wr => ∃ k : Nat, k ≤ ss.length ∧ i = .int .i64 k ∧ wr.ownsRow w3.heap.size 5 1 v (joinK shCell 32 ss k).length (byteCells (joinK shCell 32 ss k)) ∧ Below w3.heap.size w3 wr)
    (fun _ i _ => ss.length - (intOf i).toNat)
  case atStart => exact ⟨0, by omega, rfl, hown', hb4⟩
  case round =>
    clear hown' hb4
    obtain ⟨k, hk, rfl, hown, hb⟩ := hrel
    have hsz3 : w3.heap.size ≤ wr.heap.size := hb.size
    by_cases hlt : k < ss.length
    · obtain ⟨b, off, rfl, hbw, hc⟩ := hrow3.at (k := k) (by simpa [strV] using hlt)
      have hck : wr.cell? ⟨b, off + k, none⟩ = some (.string ss[k]) := (hb.cell (p := ⟨b, off + k, none⟩) hbw).trans (hc k _ (strV_get ss hlt))
      have hbw2 : b < wr.heap.size := by omega
      have HL : Hid ((joinK shCell 32 ss k).length ≤ 8388608) := by
        show _ ≤ _
        have h1 := joinK_len shCell 32 ss shCell_len k
        have h2 := total_take_le ss k
        omega
      clear hc
      by_cases h0 : ¬ 0 < k
      · have HE : Hid (joinK shCell 32 ss k ++ ([39] ++ ss[k].data.toList.flatMap sh1 ++ [39]) = joinK shCell 32 ss (k + 1)) := by
          show _ = _
          obtain rfl : k = 0 := by omega
          rw [joinK_one shCell 32 ss hlt]
          exact by unfold shCell; simp
        go_wp2_with fail
        refine (zzShQuote_any ss[k] _ (joinK shCell 32 ss k) w3.heap.size wr (HSZ.out _ (List.getElem_mem _)) (Nat.le_trans HL.out (by omega)) hsz3 hown).mono ?_
        rintro e w6 ⟨v6, rfl, hown6, hb6⟩
        have R6 : w6.ownsRow w3.heap.size 5 1 v6 (joinK shCell 32 ss (k + 1)).length (byteCells (joinK shCell 32 ss (k + 1))) := by rw [← HE.out]; exact (by simpa only [List.append_assoc] using hown6)
        have hb7 := hb.trans hb6
        clear hown hb hb6 hck hown6
        go_wp2
        go_roundw
        case rel => exact ⟨k + 1, by omega, by go_num, R6, hb7⟩
        case measure => simp [intOf]; omega
      · have hpos : 0 < k := by omega
        have HE : Hid (joinK shCell 32 ss k ++ [32] ++ ([39] ++ ss[k].data.toList.flatMap sh1 ++ [39]) = joinK shCell 32 ss (k + 1)) := by
          show _ = _
          rw [joinK_succ shCell 32 ss k hlt hpos]
          exact by unfold shCell; simp
        go_wp2_with (at_builtin; refine wpList_append_own _ rfl _ _ 28 rfl w3.heap.size 5 i0 (.int .u8 0) 1 1 Tryz.underlying28 hi hz0 hz1 hz2 rfl (by decide) _ _ _ rfl (hown.alloc _) ⟨wr.heap.size, 0, none⟩ 1 1 [.int .u8 32] rfl rfl (cells_new _ [.int .u8 32] _) (fun u hu => bytes_one [32] u hu) ?_ ?_ ?_ ?_)
        · have := HL.out; unfold maxLen; omega
        · have := HL.out; omega
        · simp; omega
        intro v5 w5 hown5 hgrow5 _
        have hb5 := below_own' (hb.alloc hsz3 _) (by simp; omega) (hown.alloc _) hgrow5
        have R : w5.ownsRow w3.heap.size 5 1 v5 (joinK shCell 32 ss k ++ [32]).length (byteCells (joinK shCell 32 ss k ++ [32])) := by rw [byteCells_append]; simp only [List.length_append]; exact hown5
        have hck5 : w5.cell? ⟨b, off + k, none⟩ = some (.string ss[k]) := by
          obtain ⟨_, h⟩ := hrow3.at (k := k) (by simpa [strV] using hlt)
          obtain ⟨o2, hab, hbw3, hc3⟩ := h
          simp only [Option.some.injEq, Addr.mk.injEq, and_true] at hab
          obtain ⟨rfl, rfl⟩ := hab
          exact (hb5.cell (p := ⟨_, _ + k, none⟩) hbw3).trans (hc3 k _ (strV_get ss hlt))
        have hsz5 : w3.heap.size ≤ w5.heap.size := hb5.size
        clear hown hown5 hgrow5 hb hck
        go_wp2_with fail
        refine (zzShQuote_any ss[k] _ (joinK shCell 32 ss k ++ [32]) w3.heap.size w5 (HSZ.out _ (List.getElem_mem _)) (by have := HL.out; rw [List.length_append, List.length_singleton]; omega) hsz5 R).mono ?_
        rintro e w6 ⟨v6, rfl, hown6, hb6⟩
        have R6 : w6.ownsRow w3.heap.size 5 1 v6 (joinK shCell 32 ss (k + 1)).length (byteCells (joinK shCell 32 ss (k + 1))) := by rw [← HE.out]; exact (by simpa only [List.append_assoc] using hown6)
        have hb7 := hb5.trans hb6
        clear R hb5 hb6 hck5 hown6
        go_wp2
        go_roundw
        case rel => exact ⟨k + 1, by omega, by go_num, R6, hb7⟩
        case measure => simp [intOf]; omega
    · have hk' : k = ss.length := by omega
      subst hk'
      rw [joinK_all] at hown
      have hcv := conv_own (P := Tryz.prog) (src := 28) (dst := 9) Tryz.underlying28 Tryz.underlying5 Tryz.underlying9 hown
      have hbz := hb23.trans (hb.mono hw3)
      clear hown hb
      go_wp2
      go_ret
      exact ⟨by simp, hbz⟩

set_option maxRecDepth 100000 in
set_option maxHeartbeats 3200000 in
theorem law_FnTSVStringsExact (a : Option Addr) (cap : Nat) (ss : List ByteArray) (w : World) (hl : ss.length ≤ 140737488351232) (ha : a = none → ss = []) (hcap : a = none → cap = 0) (hrow : Row w a (strV ss)) :
    Calls Tryz.prog 4 #[.slice a ss.length cap] w (Holds w) := by
  obtain ⟨i0, hi, hz0, hz1, hz2⟩ := info_parts Tryz.infoByte
  have HA : Hid (a = none → ss = []) := ha
  have HC : Hid (a = none → cap = 0) := hcap
  clear ha hcap
  go_enter Tryz.func4, Tryz.ntmps4
  go_wp2_with fail
  refine (bytes_FnTSVStringsExact a cap ss w hl hrow).mono ?_
  rintro e w' ⟨⟨b, rfl⟩, rfl⟩
  cases b with
  | false =>
    go_wp2
    go_ret
    exact ⟨rfl, Below.refl _ _⟩
  | true =>
  by_cases h16 : 65536 < ss.length
  · go_wp2_with fail
    go_ret
    exact ⟨rfl, Below.refl _ _⟩
  have hl2 : ss.length ≤ 65536 := by omega
  clear h16
  go_wp2_with fail
  refine (strBytes_any a cap ss w hl hrow).mono ?_
  rintro e w' ⟨⟨v, rfl, hv, hv0, hv1⟩, rfl⟩
  by_cases hbig : 1048576 < v
  · clear hv
    go_wp2_with fail
    go_ret
    exact ⟨rfl, Below.refl _ _⟩
  obtain ⟨_, hvt⟩ := hv (by omega)
  have htot : 8 * ss.length + total ss ≤ 1048576 := by omega
  have hv2 : v ≤ 1048576 := by omega
  clear hvt hbig
  go_wp2_with fail
  refine (cloneStrs_any a cap ss w hl2 HA.out HC.out hrow).mono ?_
  rintro e w2 ⟨a2, cap2, n, hn, rfl, hown2, hb2, hnil⟩
  rw [strV_len] at hn
  subst hn
  have hrow2 : Row w2 a2 (strV ss) := row_of_owns (base := w.heap.size) (e := 9) (cap := cap2) (by rw [strV_len]; exact hown2)
  have hsz : ∀ s ∈ ss, s.size ≤ 1048576 := fun s hs => by have := size_le_total ss s hs; omega
  have hJ : (Lib.join (ss.map tsvCell) [9]).length ≤ 140737488355328 := by
    have := joinK_len tsvCell 9 ss (fun s => Nat.le_trans (tsvCell_len s) (by omega)) ss.length
    rw [joinK_all, List.take_length] at this; omega
  have HSZ : Hid (∀ s ∈ ss, s.size ≤ 1048576) := hsz
  have HJ : Hid ((Lib.join (ss.map tsvCell) [9]).length ≤ 140737488355328) := hJ
  clear hsz hJ hown2 hnil hv
  go_wp2_with fail
  refine (ZZToTSVStrings_n001_75_any a2 cap2 ss w2 hl2 HSZ.out HJ.out hrow2).mono ?_
  rintro e w3 ⟨rfl, hb3⟩
  have hrow3 := hrow2.below (Nat.le_refl _) hb3
  have hb23 := hb2.trans (hb3.mono hb2.size)
  clear hrow hrow2 hb2 hb3
  have hw3 : w.heap.size ≤ w3.heap.size := hb23.size
  go_wp2_with (at_make; refine wpList_make_own _ rfl _ _ 28 rfl w3.heap.size 5 i0 (.int .u8 0) 1 Tryz.underlying28 hi hz0 hz1 _ _ _ 64 rfl rfl rfl ?c1 ?c2 ?c3 ?_)
  case c1 => rw [hz2]; omega
  case c2 => unfold maxLen; omega
  case c3 => omega
  intro w4 hown hgrow
  have hb4 : Below w3.heap.size w3 w4 := (Below.refl _ _).grown hgrow (Nat.le_refl _) (by intro k hk; cases hk)
  have hown' : w4.ownsRow w3.heap.size 5 1 (.slice (some ⟨w3.heap.size, 0, none⟩) 0 64) (joinK tsvCell 9 ss 0).length (byteCells (joinK tsvCell 9 ss 0)) := by rw [joinK_zero]; exact hown
  clear hown hgrow
  go_wp2
  go_loopw [5, 6] (fun v i wr => ∃ k : Nat, k ≤ ss.length ∧ i = .int .i64 k ∧ wr.ownsRow w3.heap.size 5 1 v (joinK tsvCell 9 ss k).length (byteCells (joinK tsvCell 9 ss k)) ∧ Below w3.heap.size w3 wr)
    (fun _ i _ => ss.length - (intOf i).toNat)
  case atStart => exact ⟨0, by omega, rfl, hown', hb4⟩
  case round =>
    clear hown' hb4
    obtain ⟨k, hk, rfl, hown, hb⟩ := hrel
    have hsz3 : w3.heap.size ≤ wr.heap.size := hb.size
    by_cases hlt : k < ss.length
    · obtain ⟨b, off, rfl, hbw, hc⟩ := hrow3.at (k := k) (by simpa [strV] using hlt)
      have hck : wr.cell? ⟨b, off + k, none⟩ = some (.string ss[k]) := (hb.cell (p := ⟨b, off + k, none⟩) hbw).trans (hc k _ (strV_get ss hlt))
      have hbw2 : b < wr.heap.size := by omega
      have HL : Hid ((joinK tsvCell 9 ss k).length ≤ 8388608) := by
        show _ ≤ _
        have h1 := joinK_len tsvCell 9 ss (fun s => Nat.le_trans (tsvCell_len s) (by omega)) k
        have h2 := total_take_le ss k
        omega
      clear hc
      by_cases h0 : ¬ 0 < k
      · have HE : Hid (joinK tsvCell 9 ss k ++ (ss[k].data.toList.flatMap tsv1) = joinK tsvCell 9 ss (k + 1)) := by
          show _ = _
          obtain rfl : k = 0 := by omega
          rw [joinK_one tsvCell 9 ss hlt]
          exact rfl
        go_wp2_with fail
        refine (zzTsvEsc_any ss[k] _ (joinK tsvCell 9 ss k) w3.heap.size wr (HSZ.out _ (List.getElem_mem _)) (Nat.le_trans HL.out (by omega)) hsz3 hown).mono ?_
        rintro e w6 ⟨v6, rfl, hown6, hb6⟩
        have R6 : w6.ownsRow w3.heap.size 5 1 v6 (joinK tsvCell 9 ss (k + 1)).length (byteCells (joinK tsvCell 9 ss (k + 1))) := by rw [← HE.out]; exact (by simpa only [List.append_assoc] using hown6)
        have hb7 := hb.trans hb6
        clear hown hb hb6 hck hown6
        go_wp2
        go_roundw
        case rel => exact ⟨k + 1, by omega, by go_num, R6, hb7⟩
        case measure => simp [intOf]; omega
      · have hpos : 0 < k := by omega
        have HE : Hid (joinK tsvCell 9 ss k ++ [9] ++ (ss[k].data.toList.flatMap tsv1) = joinK tsvCell 9 ss (k + 1)) := by
          show _ = _
          rw [joinK_succ tsvCell 9 ss k hlt hpos]
          exact rfl
        go_wp2_with (at_builtin; refine wpList_append_own _ rfl _ _ 28 rfl w3.heap.size 5 i0 (.int .u8 0) 1 1 Tryz.underlying28 hi hz0 hz1 hz2 rfl (by decide) _ _ _ rfl (hown.alloc _) ⟨wr.heap.size, 0, none⟩ 1 1 [.int .u8 9] rfl rfl (cells_new _ [.int .u8 9] _) (fun u hu => bytes_one [9] u hu) ?_ ?_ ?_ ?_)
        · have := HL.out; unfold maxLen; omega
        · have := HL.out; omega
        · simp; omega
        intro v5 w5 hown5 hgrow5 _
        have hb5 := below_own' (hb.alloc hsz3 _) (by simp; omega) (hown.alloc _) hgrow5
        have R : w5.ownsRow w3.heap.size 5 1 v5 (joinK tsvCell 9 ss k ++ [9]).length (byteCells (joinK tsvCell 9 ss k ++ [9])) := by rw [byteCells_append]; simp only [List.length_append]; exact hown5
        have hck5 : w5.cell? ⟨b, off + k, none⟩ = some (.string ss[k]) := by
          obtain ⟨_, h⟩ := hrow3.at (k := k) (by simpa [strV] using hlt)
          obtain ⟨o2, hab, hbw3, hc3⟩ := h
          simp only [Option.some.injEq, Addr.mk.injEq, and_true] at hab
          obtain ⟨rfl, rfl⟩ := hab
          exact (hb5.cell (p := ⟨_, _ + k, none⟩) hbw3).trans (hc3 k _ (strV_get ss hlt))
        have hsz5 : w3.heap.size ≤ w5.heap.size := hb5.size
        clear hown hown5 hgrow5 hb hck
        go_wp2_with fail
        refine (zzTsvEsc_any ss[k] _ (joinK tsvCell 9 ss k ++ [9]) w3.heap.size w5 (HSZ.out _ (List.getElem_mem _)) (by have := HL.out; rw [List.length_append, List.length_singleton]; omega) hsz5 R).mono ?_
        rintro e w6 ⟨v6, rfl, hown6, hb6⟩
        have R6 : w6.ownsRow w3.heap.size 5 1 v6 (joinK tsvCell 9 ss (k + 1)).length (byteCells (joinK tsvCell 9 ss (k + 1))) := by rw [← HE.out]; exact (by simpa only [List.append_assoc] using hown6)
        have hb7 := hb5.trans hb6
        clear R hb5 hb6 hck5 hown6
        go_wp2
        go_roundw
        case rel => exact ⟨k + 1, by omega, by go_num, R6, hb7⟩
        case measure => simp [intOf]; omega
    · have hk' : k = ss.length := by omega
      subst hk'
      rw [joinK_all] at hown
      have hcv := conv_own (P := Tryz.prog) (src := 28) (dst := 9) Tryz.underlying28 Tryz.underlying5 Tryz.underlying9 hown
      have hbz := hb23.trans (hb.mono hw3)
      clear hown hb
      go_wp2
      go_ret
      exact ⟨by simp, hbz⟩

end Go.Proofs.YtnmmdhgdcdhpnaaGreatFmt
