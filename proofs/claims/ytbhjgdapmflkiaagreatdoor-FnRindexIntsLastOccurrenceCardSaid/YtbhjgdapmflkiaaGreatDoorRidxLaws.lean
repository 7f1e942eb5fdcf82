/-
  The laws on rindex and indices over rows of ints (folder n001_82).
-/
import Derived.Test.YtbhjgdapmflkiaaGreatDoorRidx
namespace Go.Proofs.YtbhjgdapmflkiaaGreatDoor
open Go Go.RowKit

theorem bytesR1_any (a b : Option Addr) (cap n cap2 m : Nat) (w : World) (hl : n ≤ 140737488351232) (hl2 : m ≤ 140737488351232) :
    Calls Tryz.prog 8 #[.slice a n cap, .slice b m cap2] w fun e w' => SomeBool e ∧ w = w' := by
  go_enter Tryz.func8, Tryz.ntmps8
  go_wp2
  all_goals (go_ret; exact ⟨⟨_, rfl⟩, rfl⟩)
theorem bytesR2_any (a b : Option Addr) (cap n cap2 m : Nat) (w : World) (hl : n ≤ 140737488351232) (hl2 : m ≤ 140737488351232) :
    Calls Tryz.prog 17 #[.slice a n cap, .slice b m cap2] w fun e w' => SomeBool e ∧ w = w' := by
  go_enter Tryz.func17, Tryz.ntmps17
  go_wp2
  all_goals (go_ret; exact ⟨⟨_, rfl⟩, rfl⟩)
theorem bytesR3_any (a b : Option Addr) (cap n cap2 m : Nat) (w : World) (hl : n ≤ 140737488351232) (hl2 : m ≤ 140737488351232) :
    Calls Tryz.prog 15 #[.slice a n cap, .slice b m cap2] w fun e w' => SomeBool e ∧ w = w' := by
  go_enter Tryz.func15, Tryz.ntmps15
  go_wp2
  all_goals (go_ret; exact ⟨⟨_, rfl⟩, rfl⟩)

theorem lastOr_snoc (l : List Int) (x : Int) : lastOr (l ++ [x]) = x := by simp [lastOr, List.getLast?_append]
theorem fnd_snoc (l : List Int) (x : Int) : fnd (l ++ [x]) = true := by unfold fnd; cases l <;> rfl
theorem occK_sorted (vs xs : List Int) (k : Nat) : (occK vs xs k).Pairwise (· < ·) := by
  unfold occK
  rw [List.pairwise_map]
  have : ((List.range k).filter (matchAt vs xs)).Pairwise (· < ·) := List.Pairwise.filter _ List.pairwise_lt_range
  exact this.imp fun h => by omega
theorem occs_sorted (vs xs : List Int) : (occs vs xs).Pairwise (· < ·) := by
  unfold occs
  split
  · exact List.Pairwise.nil
  · exact occK_sorted _ _ _
/-- Strictly ascending. -/
def Asc (l : List Int) : Prop := ∀ (j : Nat) (h : j + 1 < l.length), l[j]'(by omega) < l[j + 1]
theorem occs_step (vs xs : List Int) : Asc (occs vs xs) := fun j h =>
  (List.pairwise_iff_getElem.1 (occs_sorted vs xs)) j (j + 1) (by omega) h (by omega)
theorem occs_mem (vs xs : List Int) (j : Nat) (h : j < (occs vs xs).length) : ∃ k : Nat, (occs vs xs)[j] = (k : Int) ∧ k + xs.length ≤ vs.length ∧ matchAt vs xs k = true := by
  have hm := List.getElem_mem h
  generalize (occs vs xs)[j] = g at hm
  by_cases h0 : xs.length = 0
  · unfold occs at hm; rw [if_pos h0] at hm; simp at hm
  · unfold occs at hm
    rw [if_neg h0] at hm
    unfold occK at hm
    obtain ⟨k, hk, rfl⟩ := List.mem_map.1 hm
    obtain ⟨hk1, hk2⟩ := List.mem_filter.1 hk
    have := List.mem_range.1 hk1
    exact ⟨k, rfl, by omega, hk2⟩

set_option maxRecDepth 100000 in
set_option maxHeartbeats 800000 in
theorem law_FnRindexIntsLastOccurrence (a : Option Addr) (cap : Nat) (vs : List Int) (b : Option Addr) (cap2 : Nat) (xs : List Int) (w : World) (hl : vs.length ≤ 140737488351232) (ha : a = none → vs = []) (hcap : a = none → cap = 0) (hrow : Row w a (intV vs))
    (hlb : xs.length ≤ 140737488351232) (hab : b = none → xs = []) (hcapb : b = none → cap2 = 0) (hrowb : Row w b (intV xs)) :
    Calls Tryz.prog 3 #[.slice a vs.length cap, .slice b xs.length cap2] w (Holds w) := by
  have HA : Hid (a = none → vs = []) := ha
  have HC : Hid (a = none → cap = 0) := hcap
  have HA2 : Hid (b = none → xs = []) := hab
  have HC2 : Hid (b = none → cap2 = 0) := hcapb
  clear ha hcap hab hcapb
  go_enter Tryz.func3, Tryz.ntmps3
  go_wp2_with fail
  refine (bytesR1_any a b cap vs.length cap2 xs.length w hl hlb).mono ?_
  rintro e w' ⟨⟨g, rfl⟩, rfl⟩
  cases g with
  | false =>
    go_wp2
    go_ret
    exact ⟨rfl, Below.refl _ _⟩
  | true =>
  by_cases h16 : 4096 < vs.length
  · go_wp2_with fail
    go_ret
    exact ⟨rfl, Below.refl _ _⟩
  by_cases h17 : 4096 < xs.length
  · go_wp2_with fail
    go_ret
    exact ⟨rfl, Below.refl _ _⟩
  have hl2 : vs.length ≤ 4096 := by omega
  have hlb2 : xs.length ≤ 4096 := by omega
  clear h16 h17
  go_wp2_with fail
  refine (clone_any a cap vs w (by omega) HA.out HC.out hrow).mono ?_
  rintro e w1 ⟨_, rfl, a1, c1, rfl, r1, hb1⟩
  have hrowb1 := hrowb.below (Nat.le_refl _) hb1
  clear hrow hrowb
  go_wp2_with fail
  refine (clone_any b cap2 xs w1 (by omega) HA2.out HC2.out hrowb1).mono ?_
  rintro e w2 ⟨_, rfl, a2, c2, rfl, r2, hb2⟩
  have r1' := r1.below (Nat.le_refl _) hb2
  have hb12 := hb1.trans (hb2.mono hb1.size)
  clear hrowb1 r1 hb1 hb2
  have rest : ∀ w3 : World, Drawn w2 w3 → Calls Tryz.prog 11 #[.slice a1 vs.length c1, .slice a2 xs.length c2] w3 fun e w' => e = .returned (.tuple #[.int .i64 (lastOr (occs vs xs)), .bool (fnd (occs vs xs))]) ∧ Below w3.heap.size w3 w' :=
    fun w3 hd => zzRindexInts_any a1 a2 c1 c2 vs xs w3 (by omega) (by omega) (r1'.drawn hd) (r2.drawn hd)
  have RE : Hid (∀ w3 : World, Drawn w2 w3 → Calls Tryz.prog 11 #[.slice a1 vs.length c1, .slice a2 xs.length c2] w3 fun e w' => e = .returned (.tuple #[.int .i64 (lastOr (occs vs xs)), .bool (fnd (occs vs xs))]) ∧ Below w3.heap.size w3 w') := rest
  clear rest
  by_cases h0 : xs.length = 0
  · have HO : Hid (occs vs xs = []) := by show _ = _; unfold occs; rw [if_pos h0]
    have h0' : ¬ (0 : Int) < (xs.length : Int) := by omega
    have HR := RE.out w2 (Drawn.refl w2)
    rw [HO.out, h0] at HR
    have HR' : Hid (Calls Tryz.prog 11 _ w2 _) := HR
    clear HR r1' r2 RE
    go_wp2_with fail
    refine HR'.out.mono ?_
    rintro e w3 ⟨rfl, hb3⟩
    go_wp2
    go_ret
    exact ⟨rfl, hb12.trans (hb3.mono hb12.size)⟩
  · have hpos : 0 < xs.length := by omega
    have hocc : Hid (occs vs xs = occK vs xs (vs.length + 1 - xs.length)) := by show occs vs xs = _; unfold occs; rw [if_neg h0]
    go_wp2_with fail
    go_loopw [5, 6, 7] (fun f l v wr => ∃ (k : Nat) (f0 : Bool) (l0 : Int), (k = 0 ∨ k + xs.length ≤ vs.length + 1) ∧ v = .int .i64 k ∧ f = .bool f0 ∧ l = .int .i64 l0 ∧ Hid (f0 = fnd (occK vs xs k) ∧ l0 = lastOr (occK vs xs k)) ∧ Drawn w2 wr)
      (fun _ _ v _ => vs.length + 1 - (intOf v).toNat)
    case atStart => exact ⟨0, false, 0, .inl rfl, rfl, rfl, rfl, ⟨rfl, rfl⟩, Drawn.refl w2⟩
    case round =>
      obtain ⟨k, f0, l0, hk, rfl, rfl, rfl, HF, hd⟩ := hrel
      by_cases hlt : k + xs.length ≤ vs.length
      · have hlt' : (k : Int) + (xs.length : Int) ≤ (vs.length : Int) := by omega
        have HM := zzMatchAt_any a1 a2 c1 c2 vs xs k wr (by omega) hlt (r1'.drawn hd) (r2.drawn hd)
        by_cases hm : matchAt vs xs k = true
        · rw [hm] at HM
          have HO : Hid (true = fnd (occK vs xs (k + 1)) ∧ (k : Int) = lastOr (occK vs xs (k + 1))) := by
            show _ ∧ _
            rw [occK_hit vs xs k hm, fnd_snoc, lastOr_snoc]
            exact ⟨rfl, rfl⟩
          have HM' : Hid (Calls Tryz.prog 10 _ wr _) := HM
          clear HM hm HF
          go_wp2_with fail
          refine HM'.out.mono ?_
          rintro e w3 ⟨rfl, hd3⟩
          go_wp2_with fail
          go_roundw
          case rel => exact ⟨k + 1, true, k, .inr (by omega), by go_num, rfl, rfl, HO, hd.trans hd3⟩
          case measure => simp [intOf]; omega
        · have hm' : matchAt vs xs k = false := by simpa using hm
          rw [hm'] at HM
          have HO : Hid (f0 = fnd (occK vs xs (k + 1)) ∧ l0 = lastOr (occK vs xs (k + 1))) := by
            show _ ∧ _
            rw [occK_miss vs xs k hm']
            exact HF.out
          have HM' : Hid (Calls Tryz.prog 10 _ wr _) := HM
          clear HM hm hm' HF
          go_wp2_with fail
          refine HM'.out.mono ?_
          rintro e w3 ⟨rfl, hd3⟩
          go_wp2_with fail
          go_roundw
          case rel => exact ⟨k + 1, f0, l0, .inr (by omega), by go_num, rfl, rfl, HO, hd.trans hd3⟩
          case measure => simp [intOf]; omega
      · have hlt' : ¬ (k : Int) + (xs.length : Int) ≤ (vs.length : Int) := by omega
        have hk' : k = vs.length + 1 - xs.length := by omega
        have HR := RE.out wr hd
        rw [hocc.out, ← hk', ← HF.out.1, ← HF.out.2] at HR
        have HR' : Hid (Calls Tryz.prog 11 _ wr _) := HR
        have hbd := hb12.trans (hd.below _)
        clear HR r1' r2 RE HF
        cases f0 with
        | false =>
          go_wp2_with fail
          refine HR'.out.mono ?_
          rintro e w3 ⟨rfl, hb3⟩
          go_wp2
          go_ret
          exact ⟨rfl, hbd.trans (hb3.mono hbd.size)⟩
        | true =>
          go_wp2_with fail
          refine HR'.out.mono ?_
          rintro e w3 ⟨rfl, hb3⟩
          go_wp2
          go_ret
          exact ⟨rfl, hbd.trans (hb3.mono hbd.size)⟩

end Go.Proofs.YtbhjgdapmflkiaaGreatDoor
