/-
  The escapes of @sh and @tsv: the module's own (shEscape, tsvEscape: '+' of constant texts onto bytes) and the statement's (zzShQuote, zzTsvEsc), each by its contract: every byte is turned by one table.
  PRINTED BY this repo's wip/mk_esc.py.
-/
import Derived.Test.YtnmmdhgdcdhpnaaGreatFmtProg
import Derived.Test.YtnmmdhgdcdhpnaaGreatFmtEsc
import Derived.WalkSpells
import Derived.KernelRfl
namespace Go.Proofs.YtnmmdhgdcdhpnaaGreatFmt
open Go Go.RowKit
open Go.Lib (byteCells byteCells_length byteCells_append)


set_option maxRecDepth 100000 in
set_option maxHeartbeats 1600000 in
theorem zzShQuote_any (s : ByteArray) (v : Value) (l : List UInt8) (base : Nat) (w : World) (hs : s.size ≤ 1048576) (hl : l.length ≤ 1099511627776) (hbase : base ≤ w.heap.size) (hown : w.ownsRow base 5 1 v l.length (byteCells l)) :
    Calls Tryz.prog 14 #[v, .string s] w (Grew base 5 w (l ++ [39] ++ s.data.toList.flatMap sh1 ++ [39])) := by
  obtain ⟨i0, hi, hz0, hz1, hz2⟩ := info_parts Tryz.infoByte
  go_enter Tryz.func14, Tryz.ntmps14
  go_wp2_with (at_builtin; refine wpList_append_own _ rfl _ _ 28 rfl base 5 i0 (.int .u8 0) 1 1 Tryz.underlying28 hi hz0 hz1 hz2 rfl (by decide) _ _ _ rfl (hown.alloc _) ⟨w.heap.size, 0, none⟩ 1 1 [.int .u8 39] rfl rfl (cells_new _ [.int .u8 39] _) (fun u hu => bytes_one [39] u hu) ?_ ?_ ?_ ?_)
  · unfold maxLen; simp at *; omega
  · simp at *; omega
  · simp; omega
  intro v1 w1 hown1 hgrow1 _
  have hb1 : Below base w w1 := below_own' ((Below.refl base w).alloc hbase _) (by simp; omega) (hown.alloc _) hgrow1
  have hown0 : w1.ownsRow base 5 1 v1 (l ++ [39]).length (byteCells (l ++ [39])) := by rw [byteCells_append, List.length_append]; exact hown1
  clear hown1 hgrow1 hown
  obtain ⟨q, hq⟩ : ∃ q, q = l ++ [39] := ⟨_, rfl⟩
  rw [← hq] at hown0
  have hql : q.length ≤ 1099511627780 := by rw [hq, List.length_append]; simp; omega
  have HQ : Hid (q = l ++ [39]) := hq
  clear hq
  go_wp2
  go_loopw [0, 5] (fun v i wr => ∃ k : Nat, k ≤ s.size ∧ i = .int .i64 k ∧ wr.ownsRow base 5 1 v (q ++ esc sh1 s k).length (byteCells (q ++ esc sh1 s k)) ∧ Below base w wr)
    (fun _ i _ => s.size - (intOf i).toNat)
  case atStart => exact ⟨0, by omega, rfl, by rw [esc_zero, List.append_nil]; exact hown0, hb1⟩
  case round =>
    clear hown0 hb1
    obtain ⟨k, hk, rfl, hown, hb⟩ := hrel
    have hlen := esc_len sh1 4 sh1_len s k
    have hlen2 : (q ++ esc sh1 s k).length = q.length + (esc sh1 s k).length := List.length_append
    have HL : Hid ((q ++ esc sh1 s k).length ≤ 1099511627780 + 4 * k) := by show _ ≤ _; omega
    clear hlen2
    have hsz : base ≤ wr.heap.size := Nat.le_trans hbase hb.size
    by_cases hlt : k < s.size
    · have HS : Hid (esc sh1 s (k + 1) = esc sh1 s k ++ sh1 s[k]) := esc_succ sh1 s k hlt
      by_cases h39 : (s[k].toNat : Int) = 39
      · have HT : Hid (sh1 s[k] = [39, 92, 39, 39]) := by show sh1 _ = _; unfold sh1; rw [if_pos (show s[k] = 39 from u8_eq _ 39 (by omega) h39)]
        have R0 := HL.out
        have HN : Hid ((q ++ esc sh1 s k).length + 4 ≤ 1099516000000) := by show _ ≤ _; omega
        clear R0
        go_wp2_with (at_builtin; refine wpList_append_own _ rfl _ _ 28 rfl base 5 i0 (.int .u8 0) 1 1 Tryz.underlying28 hi hz0 hz1 hz2 rfl (by decide) _ _ _ rfl (hown.alloc _) ⟨wr.heap.size, 0, none⟩ 4 4 [.int .u8 39, .int .u8 92, .int .u8 39, .int .u8 39] rfl rfl (cells_new _ [.int .u8 39, .int .u8 92, .int .u8 39, .int .u8 39] _) (fun u hu => bytes_one [39, 92, 39, 39] u hu) ?_ ?_ ?_ ?_)
        · have := HN.out; unfold maxLen; omega
        · have := HN.out; omega
        · simp; omega
        intro v' w1 hown' hgrow hnil
        have hb' := below_own' (hb.alloc hsz _) (by simp; omega) (hown.alloc _) hgrow
        have R : w1.ownsRow base 5 1 v' (q ++ esc sh1 s (k + 1)).length (byteCells (q ++ esc sh1 s (k + 1))) := by rw [HS.out, HT.out, ← List.append_assoc, byteCells_append]; simp only [List.length_append]; exact hown'
        clear hown hown' hgrow hnil hb
        go_wp2
        go_roundw
        case rel => exact ⟨k + 1, by omega, by go_num, R, hb'⟩
        case measure => simp [intOf]; omega
      by_cases h0 : (s[k].toNat : Int) = 0
      · have HT : Hid (sh1 s[k] = [92, 48]) := by show sh1 _ = _; unfold sh1; rw [if_neg (show ¬ s[k] = 39 from u8_ne _ 39 (by omega) h39), if_pos (show s[k] = 0 from u8_eq _ 0 (by omega) h0)]
        have R0 := HL.out
        have HN : Hid ((q ++ esc sh1 s k).length + 2 ≤ 1099516000000) := by show _ ≤ _; omega
        clear R0
        go_wp2_with (at_builtin; refine wpList_append_own _ rfl _ _ 28 rfl base 5 i0 (.int .u8 0) 1 1 Tryz.underlying28 hi hz0 hz1 hz2 rfl (by decide) _ _ _ rfl (hown.alloc _) ⟨wr.heap.size, 0, none⟩ 2 2 [.int .u8 92, .int .u8 48] rfl rfl (cells_new _ [.int .u8 92, .int .u8 48] _) (fun u hu => bytes_one [92, 48] u hu) ?_ ?_ ?_ ?_)
        · have := HN.out; unfold maxLen; omega
        · have := HN.out; omega
        · simp; omega
        intro v' w1 hown' hgrow hnil
        have hb' := below_own' (hb.alloc hsz _) (by simp; omega) (hown.alloc _) hgrow
        have R : w1.ownsRow base 5 1 v' (q ++ esc sh1 s (k + 1)).length (byteCells (q ++ esc sh1 s (k + 1))) := by rw [HS.out, HT.out, ← List.append_assoc, byteCells_append]; simp only [List.length_append]; exact hown'
        clear hown hown' hgrow hnil hb
        go_wp2
        go_roundw
        case rel => exact ⟨k + 1, by omega, by go_num, R, hb'⟩
        case measure => simp [intOf]; omega
      have HT : Hid (sh1 s[k] = [s[k]]) := by show sh1 _ = _; unfold sh1; rw [if_neg (show ¬ s[k] = 39 from u8_ne _ 39 (by omega) h39), if_neg (show ¬ s[k] = 0 from u8_ne _ 0 (by omega) h0)]
      have R0 := HL.out
      have HN : Hid ((q ++ esc sh1 s k).length + 1 ≤ 1099516000000) := by show _ ≤ _; omega
      clear R0
      go_wp2_with (at_builtin; refine wpList_append_own _ rfl _ _ 28 rfl base 5 i0 (.int .u8 0) 1 1 Tryz.underlying28 hi hz0 hz1 hz2 rfl (by decide) _ _ _ rfl (hown.alloc _) ⟨wr.heap.size, 0, none⟩ 1 1 [.int .u8 s[k].toNat] rfl rfl (cells_new _ [.int .u8 s[k].toNat] _) (fun u hu => bytes_one [s[k]] u hu) ?_ ?_ ?_ ?_)
      · have := HN.out; unfold maxLen; omega
      · have := HN.out; omega
      · simp; omega
      intro v' w1 hown' hgrow hnil
      have hb' := below_own' (hb.alloc hsz _) (by simp; omega) (hown.alloc _) hgrow
      have R : w1.ownsRow base 5 1 v' (q ++ esc sh1 s (k + 1)).length (byteCells (q ++ esc sh1 s (k + 1))) := by rw [HS.out, HT.out, ← List.append_assoc, byteCells_append]; simp only [List.length_append]; exact hown'
      clear hown hown' hgrow hnil hb
      go_wp2
      go_roundw
      case rel => exact ⟨k + 1, by omega, by go_num, R, hb'⟩
      case measure => simp [intOf]; omega
    · have hk' : k = s.size := by omega
      subst hk'
      rw [esc_all] at hown
      have hfl := flat_len sh1 4 sh1_len s.data.toList
      have hsl : s.data.toList.length = s.size := by rw [Array.length_toList]; rfl
      have hlen3 : (q ++ s.data.toList.flatMap sh1).length = q.length + (s.data.toList.flatMap sh1).length := List.length_append
      have HN : Hid ((q ++ s.data.toList.flatMap sh1).length + 1 ≤ 1099516000000) := by show _ ≤ _; rw [hsl] at hfl; omega
      clear hfl hsl hlen3
      go_wp2_with (at_builtin; refine wpList_append_own _ rfl _ _ 28 rfl base 5 i0 (.int .u8 0) 1 1 Tryz.underlying28 hi hz0 hz1 hz2 rfl (by decide) _ _ _ rfl (hown.alloc _) ⟨wr.heap.size, 0, none⟩ 1 1 [.int .u8 39] rfl rfl (cells_new _ [.int .u8 39] _) (fun u hu => bytes_one [39] u hu) ?_ ?_ ?_ ?_)
      · have := HN.out; unfold maxLen; omega
      · have := HN.out; omega
      · simp; omega
      intro v' w1 hown' hgrow hnil
      have hb' := below_own' (hb.alloc hsz _) (by simp; omega) (hown.alloc _) hgrow
      have R : w1.ownsRow base 5 1 v' (l ++ [39] ++ s.data.toList.flatMap sh1 ++ [39]).length (byteCells (l ++ [39] ++ s.data.toList.flatMap sh1 ++ [39])) := by
        have e : l ++ [39] ++ s.data.toList.flatMap sh1 ++ [39] = q ++ s.data.toList.flatMap sh1 ++ [39] := by rw [HQ.out]
        rw [e, byteCells_append]; simp only [List.length_append, List.length_flatMap]; exact hown'
      clear hown hown' hgrow hnil hb
      go_wp2
      go_ret
      exact ⟨_, rfl, R, hb'⟩

set_option maxRecDepth 100000 in
set_option maxHeartbeats 1600000 in
theorem zzTsvEsc_any (s : ByteArray) (v : Value) (l : List UInt8) (base : Nat) (w : World) (hs : s.size ≤ 1048576) (hl : l.length ≤ 1099511627776) (hbase : base ≤ w.heap.size) (hown : w.ownsRow base 5 1 v l.length (byteCells l)) :
    Calls Tryz.prog 17 #[v, .string s] w (Grew base 5 w (l ++ s.data.toList.flatMap tsv1)) := by
  obtain ⟨i0, hi, hz0, hz1, hz2⟩ := info_parts Tryz.infoByte
  go_enter Tryz.func17, Tryz.ntmps17
  obtain ⟨q, hq⟩ : ∃ q, q = l := ⟨_, rfl⟩
  have hown0 : w.ownsRow base 5 1 v q.length (byteCells q) := by rw [hq]; exact hown
  have hql : q.length ≤ 1099511627780 := by rw [hq]; omega
  have HQ : Hid (q = l) := hq
  have hb1 := Below.refl base w
  clear hq hown
  go_wp2
  go_loopw [0, 5] (fun v i wr => ∃ k : Nat, k ≤ s.size ∧ i = .int .i64 k ∧ wr.ownsRow base 5 1 v (q ++ esc tsv1 s k).length (byteCells (q ++ esc tsv1 s k)) ∧ Below base w wr)
    (fun _ i _ => s.size - (intOf i).toNat)
  case atStart => exact ⟨0, by omega, rfl, by rw [esc_zero, List.append_nil]; exact hown0, hb1⟩
  case round =>
    clear hown0 hb1
    obtain ⟨k, hk, rfl, hown, hb⟩ := hrel
    have hlen := esc_len tsv1 4 tsv1_len s k
    have hlen2 : (q ++ esc tsv1 s k).length = q.length + (esc tsv1 s k).length := List.length_append
    have HL : Hid ((q ++ esc tsv1 s k).length ≤ 1099511627780 + 4 * k) := by show _ ≤ _; omega
    clear hlen2
    have hsz : base ≤ wr.heap.size := Nat.le_trans hbase hb.size
    by_cases hlt : k < s.size
    · have HS : Hid (esc tsv1 s (k + 1) = esc tsv1 s k ++ tsv1 s[k]) := esc_succ tsv1 s k hlt
      by_cases h9 : (s[k].toNat : Int) = 9
      · have HT : Hid (tsv1 s[k] = [92, 116]) := by show tsv1 _ = _; unfold tsv1; rw [if_pos (show s[k] = 9 from u8_eq _ 9 (by omega) h9)]
        have R0 := HL.out
        have HN : Hid ((q ++ esc tsv1 s k).length + 2 ≤ 1099516000000) := by show _ ≤ _; omega
        clear R0
        go_wp2_with (at_builtin; refine wpList_append_own _ rfl _ _ 28 rfl base 5 i0 (.int .u8 0) 1 1 Tryz.underlying28 hi hz0 hz1 hz2 rfl (by decide) _ _ _ rfl (hown.alloc _) ⟨wr.heap.size, 0, none⟩ 2 2 [.int .u8 92, .int .u8 116] rfl rfl (cells_new _ [.int .u8 92, .int .u8 116] _) (fun u hu => bytes_one [92, 116] u hu) ?_ ?_ ?_ ?_)
        · have := HN.out; unfold maxLen; omega
        · have := HN.out; omega
        · simp; omega
        intro v' w1 hown' hgrow hnil
        have hb' := below_own' (hb.alloc hsz _) (by simp; omega) (hown.alloc _) hgrow
        have R : w1.ownsRow base 5 1 v' (q ++ esc tsv1 s (k + 1)).length (byteCells (q ++ esc tsv1 s (k + 1))) := by rw [HS.out, HT.out, ← List.append_assoc, byteCells_append]; simp only [List.length_append]; exact hown'
        clear hown hown' hgrow hnil hb
        go_wp2
        go_roundw
        case rel => exact ⟨k + 1, by omega, by go_num, R, hb'⟩
        case measure => simp [intOf]; omega
      by_cases h13 : (s[k].toNat : Int) = 13
      · have HT : Hid (tsv1 s[k] = [92, 114]) := by show tsv1 _ = _; unfold tsv1; rw [if_neg (show ¬ s[k] = 9 from u8_ne _ 9 (by omega) h9), if_pos (show s[k] = 13 from u8_eq _ 13 (by omega) h13)]
        have R0 := HL.out
        have HN : Hid ((q ++ esc tsv1 s k).length + 2 ≤ 1099516000000) := by show _ ≤ _; omega
        clear R0
        go_wp2_with (at_builtin; refine wpList_append_own _ rfl _ _ 28 rfl base 5 i0 (.int .u8 0) 1 1 Tryz.underlying28 hi hz0 hz1 hz2 rfl (by decide) _ _ _ rfl (hown.alloc _) ⟨wr.heap.size, 0, none⟩ 2 2 [.int .u8 92, .int .u8 114] rfl rfl (cells_new _ [.int .u8 92, .int .u8 114] _) (fun u hu => bytes_one [92, 114] u hu) ?_ ?_ ?_ ?_)
        · have := HN.out; unfold maxLen; omega
        · have := HN.out; omega
        · simp; omega
        intro v' w1 hown' hgrow hnil
        have hb' := below_own' (hb.alloc hsz _) (by simp; omega) (hown.alloc _) hgrow
        have R : w1.ownsRow base 5 1 v' (q ++ esc tsv1 s (k + 1)).length (byteCells (q ++ esc tsv1 s (k + 1))) := by rw [HS.out, HT.out, ← List.append_assoc, byteCells_append]; simp only [List.length_append]; exact hown'
        clear hown hown' hgrow hnil hb
        go_wp2
        go_roundw
        case rel => exact ⟨k + 1, by omega, by go_num, R, hb'⟩
        case measure => simp [intOf]; omega
      by_cases h10 : (s[k].toNat : Int) = 10
      · have HT : Hid (tsv1 s[k] = [92, 110]) := by show tsv1 _ = _; unfold tsv1; rw [if_neg (show ¬ s[k] = 9 from u8_ne _ 9 (by omega) h9), if_neg (show ¬ s[k] = 13 from u8_ne _ 13 (by omega) h13), if_pos (show s[k] = 10 from u8_eq _ 10 (by omega) h10)]
        have R0 := HL.out
        have HN : Hid ((q ++ esc tsv1 s k).length + 2 ≤ 1099516000000) := by show _ ≤ _; omega
        clear R0
        go_wp2_with (at_builtin; refine wpList_append_own _ rfl _ _ 28 rfl base 5 i0 (.int .u8 0) 1 1 Tryz.underlying28 hi hz0 hz1 hz2 rfl (by decide) _ _ _ rfl (hown.alloc _) ⟨wr.heap.size, 0, none⟩ 2 2 [.int .u8 92, .int .u8 110] rfl rfl (cells_new _ [.int .u8 92, .int .u8 110] _) (fun u hu => bytes_one [92, 110] u hu) ?_ ?_ ?_ ?_)
        · have := HN.out; unfold maxLen; omega
        · have := HN.out; omega
        · simp; omega
        intro v' w1 hown' hgrow hnil
        have hb' := below_own' (hb.alloc hsz _) (by simp; omega) (hown.alloc _) hgrow
        have R : w1.ownsRow base 5 1 v' (q ++ esc tsv1 s (k + 1)).length (byteCells (q ++ esc tsv1 s (k + 1))) := by rw [HS.out, HT.out, ← List.append_assoc, byteCells_append]; simp only [List.length_append]; exact hown'
        clear hown hown' hgrow hnil hb
        go_wp2
        go_roundw
        case rel => exact ⟨k + 1, by omega, by go_num, R, hb'⟩
        case measure => simp [intOf]; omega
      by_cases h92 : (s[k].toNat : Int) = 92
      · have HT : Hid (tsv1 s[k] = [92, 92]) := by show tsv1 _ = _; unfold tsv1; rw [if_neg (show ¬ s[k] = 9 from u8_ne _ 9 (by omega) h9), if_neg (show ¬ s[k] = 13 from u8_ne _ 13 (by omega) h13), if_neg (show ¬ s[k] = 10 from u8_ne _ 10 (by omega) h10), if_pos (show s[k] = 92 from u8_eq _ 92 (by omega) h92)]
        have R0 := HL.out
        have HN : Hid ((q ++ esc tsv1 s k).length + 2 ≤ 1099516000000) := by show _ ≤ _; omega
        clear R0
        go_wp2_with (at_builtin; refine wpList_append_own _ rfl _ _ 28 rfl base 5 i0 (.int .u8 0) 1 1 Tryz.underlying28 hi hz0 hz1 hz2 rfl (by decide) _ _ _ rfl (hown.alloc _) ⟨wr.heap.size, 0, none⟩ 2 2 [.int .u8 92, .int .u8 92] rfl rfl (cells_new _ [.int .u8 92, .int .u8 92] _) (fun u hu => bytes_one [92, 92] u hu) ?_ ?_ ?_ ?_)
        · have := HN.out; unfold maxLen; omega
        · have := HN.out; omega
        · simp; omega
        intro v' w1 hown' hgrow hnil
        have hb' := below_own' (hb.alloc hsz _) (by simp; omega) (hown.alloc _) hgrow
        have R : w1.ownsRow base 5 1 v' (q ++ esc tsv1 s (k + 1)).length (byteCells (q ++ esc tsv1 s (k + 1))) := by rw [HS.out, HT.out, ← List.append_assoc, byteCells_append]; simp only [List.length_append]; exact hown'
        clear hown hown' hgrow hnil hb
        go_wp2
        go_roundw
        case rel => exact ⟨k + 1, by omega, by go_num, R, hb'⟩
        case measure => simp [intOf]; omega
      by_cases h0 : (s[k].toNat : Int) = 0
      · have HT : Hid (tsv1 s[k] = [92, 48]) := by show tsv1 _ = _; unfold tsv1; rw [if_neg (show ¬ s[k] = 9 from u8_ne _ 9 (by omega) h9), if_neg (show ¬ s[k] = 13 from u8_ne _ 13 (by omega) h13), if_neg (show ¬ s[k] = 10 from u8_ne _ 10 (by omega) h10), if_neg (show ¬ s[k] = 92 from u8_ne _ 92 (by omega) h92), if_pos (show s[k] = 0 from u8_eq _ 0 (by omega) h0)]
        have R0 := HL.out
        have HN : Hid ((q ++ esc tsv1 s k).length + 2 ≤ 1099516000000) := by show _ ≤ _; omega
        clear R0
        go_wp2_with (at_builtin; refine wpList_append_own _ rfl _ _ 28 rfl base 5 i0 (.int .u8 0) 1 1 Tryz.underlying28 hi hz0 hz1 hz2 rfl (by decide) _ _ _ rfl (hown.alloc _) ⟨wr.heap.size, 0, none⟩ 2 2 [.int .u8 92, .int .u8 48] rfl rfl (cells_new _ [.int .u8 92, .int .u8 48] _) (fun u hu => bytes_one [92, 48] u hu) ?_ ?_ ?_ ?_)
        · have := HN.out; unfold maxLen; omega
        · have := HN.out; omega
        · simp; omega
        intro v' w1 hown' hgrow hnil
        have hb' := below_own' (hb.alloc hsz _) (by simp; omega) (hown.alloc _) hgrow
        have R : w1.ownsRow base 5 1 v' (q ++ esc tsv1 s (k + 1)).length (byteCells (q ++ esc tsv1 s (k + 1))) := by rw [HS.out, HT.out, ← List.append_assoc, byteCells_append]; simp only [List.length_append]; exact hown'
        clear hown hown' hgrow hnil hb
        go_wp2
        go_roundw
        case rel => exact ⟨k + 1, by omega, by go_num, R, hb'⟩
        case measure => simp [intOf]; omega
      have HT : Hid (tsv1 s[k] = [s[k]]) := by show tsv1 _ = _; unfold tsv1; rw [if_neg (show ¬ s[k] = 9 from u8_ne _ 9 (by omega) h9), if_neg (show ¬ s[k] = 13 from u8_ne _ 13 (by omega) h13), if_neg (show ¬ s[k] = 10 from u8_ne _ 10 (by omega) h10), if_neg (show ¬ s[k] = 92 from u8_ne _ 92 (by omega) h92), if_neg (show ¬ s[k] = 0 from u8_ne _ 0 (by omega) h0)]
      have R0 := HL.out
      have HN : Hid ((q ++ esc tsv1 s k).length + 1 ≤ 1099516000000) := by show _ ≤ _; omega
      clear R0
      go_wp2_with (at_builtin; refine wpList_append_own _ rfl _ _ 28 rfl base 5 i0 (.int .u8 0) 1 1 Tryz.underlying28 hi hz0 hz1 hz2 rfl (by decide) _ _ _ rfl (hown.alloc _) ⟨wr.heap.size, 0, none⟩ 1 1 [.int .u8 s[k].toNat] rfl rfl (cells_new _ [.int .u8 s[k].toNat] _) (fun u hu => bytes_one [s[k]] u hu) ?_ ?_ ?_ ?_)
      · have := HN.out; unfold maxLen; omega
      · have := HN.out; omega
      · simp; omega
      intro v' w1 hown' hgrow hnil
      have hb' := below_own' (hb.alloc hsz _) (by simp; omega) (hown.alloc _) hgrow
      have R : w1.ownsRow base 5 1 v' (q ++ esc tsv1 s (k + 1)).length (byteCells (q ++ esc tsv1 s (k + 1))) := by rw [HS.out, HT.out, ← List.append_assoc, byteCells_append]; simp only [List.length_append]; exact hown'
      clear hown hown' hgrow hnil hb
      go_wp2
      go_roundw
      case rel => exact ⟨k + 1, by omega, by go_num, R, hb'⟩
      case measure => simp [intOf]; omega
    · have hk' : k = s.size := by omega
      subst hk'
      rw [esc_all] at hown
      rw [HQ.out] at hown
      go_wp2
      go_ret
      exact ⟨_, rfl, hown, hb⟩

end Go.Proofs.YtnmmdhgdcdhpnaaGreatFmt
