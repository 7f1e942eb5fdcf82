/-
  The escapes of @sh and @tsv: the module's own (shEscape, tsvEscape: '+' of constant texts onto bytes) and the statement's (zzShQuote, zzTsvEsc), each by its contract: every byte is turned by one table.
  PRINTED BY this repo's wip/mk_esc.py.
-/
import Derived.Test.YtnmmdhgdcdhpnaaGreatFmtProg
import Derived.Test.YtnmmdhgdcdhpnaaGreatFmtKit
import Derived.WalkSpells
import Derived.KernelRfl
namespace Go.Proofs.YtnmmdhgdcdhpnaaGreatFmt
open Go Go.RowKit
open Go.Lib (byteCells byteCells_length byteCells_append)

theorem Tryz.infoByte : (Tryz.prog.info? 5).map (fun i => (i.zero, i.size, i.bytes)) = some (some (.int .u8 0), 1, 1) := by kernel_rfl

/-- One byte's escape. -/
def sh1 (b : UInt8) : List UInt8 := if b = 39 then [39, 92, 39, 39] else if b = 0 then [92, 48] else [b]
theorem sh1_len (b : UInt8) : (sh1 b).length ≤ 4 := by unfold sh1; (repeat' split) <;> simp
theorem u8_eq (b : UInt8) (n : Nat) (hn : n < 256) (h : (b.toNat : Int) = n) : b = UInt8.ofNat n := by
  apply UInt8.toNat_inj.1
  rw [UInt8.toNat_ofNat_of_lt' (by simpa [UInt8.size] using hn)]
  omega
theorem u8_ne (b : UInt8) (n : Nat) (hn : n < 256) (h : ¬ (b.toNat : Int) = n) : b ≠ UInt8.ofNat n := by
  intro e
  apply h
  rw [e, UInt8.toNat_ofNat_of_lt' (by simpa [UInt8.size] using hn)]

/-- One byte's escape. -/
def tsv1 (b : UInt8) : List UInt8 := if b = 9 then [92, 116] else if b = 13 then [92, 114] else if b = 10 then [92, 110] else if b = 92 then [92, 92] else if b = 0 then [92, 48] else [b]
theorem tsv1_len (b : UInt8) : (tsv1 b).length ≤ 4 := by unfold tsv1; (repeat' split) <;> simp

set_option maxRecDepth 100000 in
set_option maxHeartbeats 1600000 in
theorem shEscape_any (s : ByteArray) (w : World) (hs : s.size ≤ 1048576) :
    Calls Tryz.prog 41 #[.string s] w (Says w (s.data.toList.flatMap sh1)) := by
  obtain ⟨i0, hi, hz0, hz1, hz2⟩ := info_parts Tryz.infoByte
  go_enter Tryz.func41, Tryz.ntmps41
  go_wp2
  go_loopw [3, 4] (fun v i wr => ∃ k : Nat, k ≤ s.size ∧ i = .int .i64 k ∧ wr.ownsRow w.heap.size 5 1 v (esc sh1 s k).length (byteCells (esc sh1 s k)) ∧ Below w.heap.size w wr)
    (fun _ i _ => s.size - (intOf i).toNat)
  case atStart => exact ⟨0, by omega, rfl, by rw [esc_zero]; exact World.ownsRow_nil _ _ _ _, Below.refl _ _⟩
  case round =>
    obtain ⟨k, hk, rfl, hown, hb⟩ := hrel
    have hlen := esc_len sh1 4 sh1_len s k
    have hsz := hb.size
    by_cases hlt : k < s.size
    · have HS : Hid (esc sh1 s (k + 1) = esc sh1 s k ++ sh1 s[k]) := esc_succ sh1 s k hlt

      by_cases h39 : (s[k].toNat : Int) = 39
      · have HT : Hid (sh1 s[k] = [39, 92, 39, 39]) := by show sh1 _ = _; unfold sh1; rw [if_pos (show s[k] = 39 from u8_eq _ 39 (by omega) h39)]
        go_wp2_with (at_builtin; refine Lib.wpList_append_own_string _ rfl _ _ 28 9 rfl w.heap.size 5 i0 Tryz.underlying28 Tryz.underlying9 hi hz0 hz1 hz2 _ _ _ rfl hown ⟨#[39, 92, 39, 39]⟩ rfl ?_ ?_ hsz ?_)
        · show _ + 4 ≤ _; unfold maxLen; omega
        · show _ + 4 ≤ _; omega
        intro v' w1 hown' hgrow hnil
        have hb' := below_own hb (Nat.le_refl _) hsz hown hgrow
        have R : w1.ownsRow w.heap.size 5 1 v' (esc sh1 s (k + 1)).length (byteCells (esc sh1 s (k + 1))) := by rw [HS.out, HT.out, byteCells_append, List.length_append]; exact hown'
        clear hown hown' hgrow hnil hb
        go_wp2
        go_roundw
        case rel => exact ⟨k + 1, by omega, by go_num, R, hb'⟩
        case measure => simp [intOf]; omega
      by_cases h0 : (s[k].toNat : Int) = 0
      · have HT : Hid (sh1 s[k] = [92, 48]) := by show sh1 _ = _; unfold sh1; rw [if_neg (show ¬ s[k] = 39 from u8_ne _ 39 (by omega) h39), if_pos (show s[k] = 0 from u8_eq _ 0 (by omega) h0)]
        go_wp2_with (at_builtin; refine Lib.wpList_append_own_string _ rfl _ _ 28 9 rfl w.heap.size 5 i0 Tryz.underlying28 Tryz.underlying9 hi hz0 hz1 hz2 _ _ _ rfl hown ⟨#[92, 48]⟩ rfl ?_ ?_ hsz ?_)
        · show _ + 2 ≤ _; unfold maxLen; omega
        · show _ + 2 ≤ _; omega
        intro v' w1 hown' hgrow hnil
        have hb' := below_own hb (Nat.le_refl _) hsz hown hgrow
        have R : w1.ownsRow w.heap.size 5 1 v' (esc sh1 s (k + 1)).length (byteCells (esc sh1 s (k + 1))) := by rw [HS.out, HT.out, byteCells_append, List.length_append]; exact hown'
        clear hown hown' hgrow hnil hb
        go_wp2
        go_roundw
        case rel => exact ⟨k + 1, by omega, by go_num, R, hb'⟩
        case measure => simp [intOf]; omega
      have HT : Hid (sh1 s[k] = [s[k]]) := by show sh1 _ = _; unfold sh1; rw [if_neg (show ¬ s[k] = 39 from u8_ne _ 39 (by omega) h39), if_neg (show ¬ s[k] = 0 from u8_ne _ 0 (by omega) h0)]
      go_wp2_with (at_builtin; refine wpList_append_own _ rfl _ _ 28 rfl w.heap.size 5 i0 (.int .u8 0) 1 1 Tryz.underlying28 hi hz0 hz1 hz2 rfl (by decide) _ _ _ rfl (hown.alloc _) ⟨wr.heap.size, 0, none⟩ 1 1 [.int .u8 s[k].toNat] rfl rfl (cell_one_new _ _ _) (fun u hu => by simp at hu; subst hu; rfl) ?_ ?_ ?_ ?_)
      · unfold maxLen; omega
      · omega
      · simp; omega
      intro v' w1 hown' hgrow hnil
      have hb' := below_own (hb.alloc hsz _) (Nat.le_refl _) (by simp; omega) (hown.alloc _) hgrow
      have R : w1.ownsRow w.heap.size 5 1 v' (esc sh1 s (k + 1)).length (byteCells (esc sh1 s (k + 1))) := by rw [HS.out, HT.out, byteCells_append, List.length_append]; exact hown'
      clear hown hown' hgrow hnil hb
      go_wp2
      go_roundw
      case rel => exact ⟨k + 1, by omega, by go_num, R, hb'⟩
      case measure => simp [intOf]; omega
    · have hk' : k = s.size := by omega
      subst hk'
      have hcv := conv_own (P := Tryz.prog) (src := 28) (dst := 9) Tryz.underlying28 Tryz.underlying5 Tryz.underlying9 hown
      rw [esc_all] at hcv
      clear hown
      go_wp2
      go_ret
      exact ⟨rfl, hb⟩

set_option maxRecDepth 100000 in
set_option maxHeartbeats 1600000 in
theorem tsvEscape_any (s : ByteArray) (w : World) (hs : s.size ≤ 1048576) :
    Calls Tryz.prog 42 #[.string s] w (Says w (s.data.toList.flatMap tsv1)) := by
  obtain ⟨i0, hi, hz0, hz1, hz2⟩ := info_parts Tryz.infoByte
  go_enter Tryz.func42, Tryz.ntmps42
  go_wp2
  go_loopw [3, 4] (fun v i wr => ∃ k : Nat, k ≤ s.size ∧ i = .int .i64 k ∧ wr.ownsRow w.heap.size 5 1 v (esc tsv1 s k).length (byteCells (esc tsv1 s k)) ∧ Below w.heap.size w wr)
    (fun _ i _ => s.size - (intOf i).toNat)
  case atStart => exact ⟨0, by omega, rfl, by rw [esc_zero]; exact World.ownsRow_nil _ _ _ _, Below.refl _ _⟩
  case round =>
    obtain ⟨k, hk, rfl, hown, hb⟩ := hrel
    have hlen := esc_len tsv1 4 tsv1_len s k
    have hsz := hb.size
    by_cases hlt : k < s.size
    · have HS : Hid (esc tsv1 s (k + 1) = esc tsv1 s k ++ tsv1 s[k]) := esc_succ tsv1 s k hlt

      by_cases h9 : (s[k].toNat : Int) = 9
      · have HT : Hid (tsv1 s[k] = [92, 116]) := by show tsv1 _ = _; unfold tsv1; rw [if_pos (show s[k] = 9 from u8_eq _ 9 (by omega) h9)]
        go_wp2_with (at_builtin; refine Lib.wpList_append_own_string _ rfl _ _ 28 9 rfl w.heap.size 5 i0 Tryz.underlying28 Tryz.underlying9 hi hz0 hz1 hz2 _ _ _ rfl hown ⟨#[92, 116]⟩ rfl ?_ ?_ hsz ?_)
        · show _ + 2 ≤ _; unfold maxLen; omega
        · show _ + 2 ≤ _; omega
        intro v' w1 hown' hgrow hnil
        have hb' := below_own hb (Nat.le_refl _) hsz hown hgrow
        have R : w1.ownsRow w.heap.size 5 1 v' (esc tsv1 s (k + 1)).length (byteCells (esc tsv1 s (k + 1))) := by rw [HS.out, HT.out, byteCells_append, List.length_append]; exact hown'
        clear hown hown' hgrow hnil hb
        go_wp2
        go_roundw
        case rel => exact ⟨k + 1, by omega, by go_num, R, hb'⟩
        case measure => simp [intOf]; omega
      by_cases h13 : (s[k].toNat : Int) = 13
      · have HT : Hid (tsv1 s[k] = [92, 114]) := by show tsv1 _ = _; unfold tsv1; rw [if_neg (show ¬ s[k] = 9 from u8_ne _ 9 (by omega) h9), if_pos (show s[k] = 13 from u8_eq _ 13 (by omega) h13)]
        go_wp2_with (at_builtin; refine Lib.wpList_append_own_string _ rfl _ _ 28 9 rfl w.heap.size 5 i0 Tryz.underlying28 Tryz.underlying9 hi hz0 hz1 hz2 _ _ _ rfl hown ⟨#[92, 114]⟩ rfl ?_ ?_ hsz ?_)
        · show _ + 2 ≤ _; unfold maxLen; omega
        · show _ + 2 ≤ _; omega
        intro v' w1 hown' hgrow hnil
        have hb' := below_own hb (Nat.le_refl _) hsz hown hgrow
        have R : w1.ownsRow w.heap.size 5 1 v' (esc tsv1 s (k + 1)).length (byteCells (esc tsv1 s (k + 1))) := by rw [HS.out, HT.out, byteCells_append, List.length_append]; exact hown'
        clear hown hown' hgrow hnil hb
        go_wp2
        go_roundw
        case rel => exact ⟨k + 1, by omega, by go_num, R, hb'⟩
        case measure => simp [intOf]; omega
      by_cases h10 : (s[k].toNat : Int) = 10
      · have HT : Hid (tsv1 s[k] = [92, 110]) := by show tsv1 _ = _; unfold tsv1; rw [if_neg (show ¬ s[k] = 9 from u8_ne _ 9 (by omega) h9), if_neg (show ¬ s[k] = 13 from u8_ne _ 13 (by omega) h13), if_pos (show s[k] = 10 from u8_eq _ 10 (by omega) h10)]
        go_wp2_with (at_builtin; refine Lib.wpList_append_own_string _ rfl _ _ 28 9 rfl w.heap.size 5 i0 Tryz.underlying28 Tryz.underlying9 hi hz0 hz1 hz2 _ _ _ rfl hown ⟨#[92, 110]⟩ rfl ?_ ?_ hsz ?_)
        · show _ + 2 ≤ _; unfold maxLen; omega
        · show _ + 2 ≤ _; omega
        intro v' w1 hown' hgrow hnil
        have hb' := below_own hb (Nat.le_refl _) hsz hown hgrow
        have R : w1.ownsRow w.heap.size 5 1 v' (esc tsv1 s (k + 1)).length (byteCells (esc tsv1 s (k + 1))) := by rw [HS.out, HT.out, byteCells_append, List.length_append]; exact hown'
        clear hown hown' hgrow hnil hb
        go_wp2
        go_roundw
        case rel => exact ⟨k + 1, by omega, by go_num, R, hb'⟩
        case measure => simp [intOf]; omega
      by_cases h92 : (s[k].toNat : Int) = 92
      · have HT : Hid (tsv1 s[k] = [92, 92]) := by show tsv1 _ = _; unfold tsv1; rw [if_neg (show ¬ s[k] = 9 from u8_ne _ 9 (by omega) h9), if_neg (show ¬ s[k] = 13 from u8_ne _ 13 (by omega) h13), if_neg (show ¬ s[k] = 10 from u8_ne _ 10 (by omega) h10), if_pos (show s[k] = 92 from u8_eq _ 92 (by omega) h92)]
        go_wp2_with (at_builtin; refine Lib.wpList_append_own_string _ rfl _ _ 28 9 rfl w.heap.size 5 i0 Tryz.underlying28 Tryz.underlying9 hi hz0 hz1 hz2 _ _ _ rfl hown ⟨#[92, 92]⟩ rfl ?_ ?_ hsz ?_)
        · show _ + 2 ≤ _; unfold maxLen; omega
        · show _ + 2 ≤ _; omega
        intro v' w1 hown' hgrow hnil
        have hb' := below_own hb (Nat.le_refl _) hsz hown hgrow
        have R : w1.ownsRow w.heap.size 5 1 v' (esc tsv1 s (k + 1)).length (byteCells (esc tsv1 s (k + 1))) := by rw [HS.out, HT.out, byteCells_append, List.length_append]; exact hown'
        clear hown hown' hgrow hnil hb
        go_wp2
        go_roundw
        case rel => exact ⟨k + 1, by omega, by go_num, R, hb'⟩
        case measure => simp [intOf]; omega
      by_cases h0 : (s[k].toNat : Int) = 0
      · have HT : Hid (tsv1 s[k] = [92, 48]) := by show tsv1 _ = _; unfold tsv1; rw [if_neg (show ¬ s[k] = 9 from u8_ne _ 9 (by omega) h9), if_neg (show ¬ s[k] = 13 from u8_ne _ 13 (by omega) h13), if_neg (show ¬ s[k] = 10 from u8_ne _ 10 (by omega) h10), if_neg (show ¬ s[k] = 92 from u8_ne _ 92 (by omega) h92), if_pos (show s[k] = 0 from u8_eq _ 0 (by omega) h0)]
        go_wp2_with (at_builtin; refine Lib.wpList_append_own_string _ rfl _ _ 28 9 rfl w.heap.size 5 i0 Tryz.underlying28 Tryz.underlying9 hi hz0 hz1 hz2 _ _ _ rfl hown ⟨#[92, 48]⟩ rfl ?_ ?_ hsz ?_)
        · show _ + 2 ≤ _; unfold maxLen; omega
        · show _ + 2 ≤ _; omega
        intro v' w1 hown' hgrow hnil
        have hb' := below_own hb (Nat.le_refl _) hsz hown hgrow
        have R : w1.ownsRow w.heap.size 5 1 v' (esc tsv1 s (k + 1)).length (byteCells (esc tsv1 s (k + 1))) := by rw [HS.out, HT.out, byteCells_append, List.length_append]; exact hown'
        clear hown hown' hgrow hnil hb
        go_wp2
        go_roundw
        case rel => exact ⟨k + 1, by omega, by go_num, R, hb'⟩
        case measure => simp [intOf]; omega
      have HT : Hid (tsv1 s[k] = [s[k]]) := by show tsv1 _ = _; unfold tsv1; rw [if_neg (show ¬ s[k] = 9 from u8_ne _ 9 (by omega) h9), if_neg (show ¬ s[k] = 13 from u8_ne _ 13 (by omega) h13), if_neg (show ¬ s[k] = 10 from u8_ne _ 10 (by omega) h10), if_neg (show ¬ s[k] = 92 from u8_ne _ 92 (by omega) h92), if_neg (show ¬ s[k] = 0 from u8_ne _ 0 (by omega) h0)]
      go_wp2_with (at_builtin; refine wpList_append_own _ rfl _ _ 28 rfl w.heap.size 5 i0 (.int .u8 0) 1 1 Tryz.underlying28 hi hz0 hz1 hz2 rfl (by decide) _ _ _ rfl (hown.alloc _) ⟨wr.heap.size, 0, none⟩ 1 1 [.int .u8 s[k].toNat] rfl rfl (cell_one_new _ _ _) (fun u hu => by simp at hu; subst hu; rfl) ?_ ?_ ?_ ?_)
      · unfold maxLen; omega
      · omega
      · simp; omega
      intro v' w1 hown' hgrow hnil
      have hb' := below_own (hb.alloc hsz _) (Nat.le_refl _) (by simp; omega) (hown.alloc _) hgrow
      have R : w1.ownsRow w.heap.size 5 1 v' (esc tsv1 s (k + 1)).length (byteCells (esc tsv1 s (k + 1))) := by rw [HS.out, HT.out, byteCells_append, List.length_append]; exact hown'
      clear hown hown' hgrow hnil hb
      go_wp2
      go_roundw
      case rel => exact ⟨k + 1, by omega, by go_num, R, hb'⟩
      case measure => simp [intOf]; omega
    · have hk' : k = s.size := by omega
      subst hk'
      have hcv := conv_own (P := Tryz.prog) (src := 28) (dst := 9) Tryz.underlying28 Tryz.underlying5 Tryz.underlying9 hown
      rw [esc_all] at hcv
      clear hown
      go_wp2
      go_ret
      exact ⟨rfl, hb⟩

end Go.Proofs.YtnmmdhgdcdhpnaaGreatFmt
