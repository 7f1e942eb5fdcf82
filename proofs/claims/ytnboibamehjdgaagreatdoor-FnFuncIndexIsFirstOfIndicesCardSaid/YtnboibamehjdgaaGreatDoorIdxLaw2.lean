/-
  index over two rows of ints answers the first of indices: the law's walk.
-/
import Derived.Test.YtnboibamehjdgaaGreatDoorIdxLaw
import Derived.Test.YtnboibamehjdgaaGreatDoorIdx5
namespace Go.Proofs.YtnboibamehjdgaaGreatDoor
open Go Go.RowKit

theorem bytesIntsXs_any (a b : Option Addr) (cap n cap2 m : Nat) (w : World) (hl : n ≤ 140737488351232) (hl2 : m ≤ 140737488351232) :
    Calls Tryz.prog 18 #[.slice a n cap, .slice b m cap2] w fun e w' => SomeBool e ∧ w = w' := by
  go_enter Tryz.func18, Tryz.ntmps18
  go_wp2
  all_goals (go_ret; exact ⟨⟨_, rfl⟩, rfl⟩)

set_option maxRecDepth 100000 in
set_option maxHeartbeats 3200000 in
theorem law_FnFuncIndexIsFirstOfIndices (a : Option Addr) (cap : Nat) (vs : List Int) (b : Option Addr) (cap2 : Nat) (xs : List Int) (w : World) (hl : vs.length ≤ 140737488351232) (ha : a = none → vs = []) (hcap : a = none → cap = 0) (hrow : Row w a (intV vs))
    (hlb : xs.length ≤ 140737488351232) (hab : b = none → xs = []) (hcapb : b = none → cap2 = 0) (hrowb : Row w b (intV xs)) :
    Calls Tryz.prog 6 #[.slice a vs.length cap, .slice b xs.length cap2] w (Holds w) := by
  obtain ⟨i0, hi, hz0, hz1, hz2⟩ := info_parts Tryz.infoInt
  have HA : Hid (a = none → vs = []) := ha
  have HC : Hid (a = none → cap = 0) := hcap
  have HA2 : Hid (b = none → xs = []) := hab
  have HC2 : Hid (b = none → cap2 = 0) := hcapb
  clear ha hcap hab hcapb
  have hq := fun (w : World) => run_neq_slice_nil_any (P := Tryz.prog) w 26 3 a vs.length cap 0 0 Tryz.underlying26
  have hq2 := fun (w : World) => run_neq_slice_nil_any (P := Tryz.prog) w 26 3 b xs.length cap2 0 0 Tryz.underlying26
  go_enter Tryz.func6, Tryz.ntmps6
  go_wp2_with fail
  refine (bytesIntsXs_any a b cap vs.length cap2 xs.length w hl hlb).mono ?_
  rintro e w' ⟨⟨g, rfl⟩, rfl⟩
  cases g with
  | false =>
    go_wp2
    go_ret
    exact ⟨rfl, Below.refl _ _⟩
  | true =>
  by_cases h16 : 4096 < vs.length
  · go_wp2_with fail
    go_ret
    exact ⟨rfl, Below.refl _ _⟩
  by_cases h17 : 4096 < xs.length
  · go_wp2_with fail
    go_ret
    exact ⟨rfl, Below.refl _ _⟩
  have hl2 : vs.length ≤ 4096 := by omega
  have hlb2 : xs.length ≤ 4096 := by omega
  clear h16 h17
  go_upto_if 25 with fail
  go_cut [0] (fun v wx => IsRow w wx vs v)
  case first =>
    cases a with
    | none =>
      obtain rfl := HA.out rfl
      obtain rfl := HC.out rfl
      go_wp2_with fail
      go_meet
      exact ⟨none, 0, rfl, .inl rfl, Below.refl _ _⟩
    | some ad =>
      go_wp2_with (at_make; refine wpList_make_full _ rfl _ _ 26 rfl w.heap.size 3 i0 (.int .i64 0) 1 Tryz.underlying26 hi hz0 hz1 _ _ _ _ vs.length rfl rfl rfl rfl ?c1 ?c2 ?c3 ?_)
      case c1 => rw [hz2]; omega
      case c2 => unfold maxLen; omega
      case c3 => omega
      intro w1 hown hgrow
      have hb : Below w.heap.size w w1 := (Below.refl _ _).grown hgrow (Nat.le_refl _) (by intro k hk; cases hk)
      obtain ⟨cur, hg, hcur⟩ : ∃ cur : List Value, Hid (w1.heap[w.heap.size]? = some (.cells cur.toArray 3 (0, 0))) ∧ cur.length = vs.length := by
        rcases hown.2 with ⟨h, _⟩ | ⟨g, cap', cur, h, _, hg, _, _, hs, _⟩
        · cases h
        · simp only [Value.slice.injEq, Option.some.injEq, Addr.mk.injEq, and_true, true_and] at h
          obtain ⟨rfl, rfl⟩ := h
          exact ⟨cur.toList, by show _ = _; simpa using hg, by simpa using hs⟩
      have r1 := hrow.below (Nat.le_refl _) hb
      clear hown hgrow hq 
      go_wp2_with (with_reducible refine wpList_copy_splice rfl _ _ 26 26 rfl 3 Tryz.underlying26 sizeInt (some ⟨w.heap.size, 0, none⟩) (some ad) vs.length vs.length vs.length cap rfl rfl w.heap.size 0 cur 3 hg.out (intV vs) ?_ ?_ ?_ ?_ w.heap.size w hb (Nat.le_refl _) ?_)
      · rw [intV_len]; exact (Nat.min_self _).symm
      · intro hpos
        rw [intV_len] at hpos
        obtain ⟨b, off, had, _, hc⟩ := r1.at (k := 0) (by rw [intV_len]; exact hpos)
        obtain rfl := Option.some.inj had
        have hcc : ∀ j v, (intV vs)[j]? = some v → w1.cell? ((⟨b, off, none⟩ : Addr).add j) = some v := fun j v hv => by
          rw [Addr.add_lit]
          exact hc j v hv
        first
          | exact hcc
          | exact ⟨rfl, _, rfl, hcc⟩
      · rw [intV_len, hcur]; omega
      · intro v hv
        obtain ⟨y, _, rfl⟩ := List.mem_map.1 hv
        rfl
      intro w2 hg2 hb2
      have hsp : splice cur 0 (intV vs) = intV vs := by
        unfold splice
        rw [List.take_zero, List.nil_append, Nat.zero_add, List.drop_of_length_le (by rw [intV_len, hcur]; exact Nat.le_refl _), List.append_nil]
      have r2 : Row w2 (some ⟨w.heap.size, 0, none⟩) (intV vs) := by
        have hg3 := hg2.out
        rw [hsp] at hg3
        refine .inr ⟨w.heap.size, 0, rfl, (Array.getElem?_eq_some_iff.1 hg3).1, fun j u hu => ?_⟩
        rw [Nat.zero_add, cell_of_row w2 w.heap.size j _ _ (0, 0) hg3]
        simpa using hu
      clear hg hg2 hsp r1 hb
      go_wp2_with fail
      go_meet
      exact ⟨_, _, rfl, r2, hb2⟩
  case rest =>
    obtain ⟨a1, c1, rfl, r1, hb1⟩ := hcut
    have hrowb1 := hrowb.below (Nat.le_refl _) hb1
    clear hq hrow hrowb
    go_upto_if 34 with fail
    go_cut [1] (fun v wx => IsRow wc wx xs v)
    case first =>
      cases b with
      | none =>
        obtain rfl := HA2.out rfl
        obtain rfl := HC2.out rfl
        go_wp2_with fail
        go_meet
        exact ⟨none, 0, rfl, .inl rfl, Below.refl _ _⟩
      | some ad =>
        go_wp2_with (at_make; refine wpList_make_full _ rfl _ _ 26 rfl wc.heap.size 3 i0 (.int .i64 0) 1 Tryz.underlying26 hi hz0 hz1 _ _ _ _ xs.length rfl rfl rfl rfl ?c1 ?c2 ?c3 ?_)
        case c1 => rw [hz2]; omega
        case c2 => unfold maxLen; omega
        case c3 => omega
        intro w1 hown hgrow
        have hb : Below wc.heap.size wc w1 := (Below.refl _ _).grown hgrow (Nat.le_refl _) (by intro k hk; cases hk)
        obtain ⟨cur, hg, hcur⟩ : ∃ cur : List Value, Hid (w1.heap[wc.heap.size]? = some (.cells cur.toArray 3 (0, 0))) ∧ cur.length = xs.length := by
          rcases hown.2 with ⟨h, _⟩ | ⟨g, cap', cur, h, _, hg, _, _, hs, _⟩
          · cases h
          · simp only [Value.slice.injEq, Option.some.injEq, Addr.mk.injEq, and_true, true_and] at h
            obtain ⟨rfl, rfl⟩ := h
            exact ⟨cur.toList, by show _ = _; simpa using hg, by simpa using hs⟩
        have r1 := hrowb1.below (Nat.le_refl _) hb
        clear hown hgrow hq2 
        go_wp2_with (with_reducible refine wpList_copy_splice rfl _ _ 26 26 rfl 3 Tryz.underlying26 sizeInt (some ⟨wc.heap.size, 0, none⟩) (some ad) xs.length xs.length xs.length cap2 rfl rfl wc.heap.size 0 cur 3 hg.out (intV xs) ?_ ?_ ?_ ?_ wc.heap.size wc hb (Nat.le_refl _) ?_)
        · rw [intV_len]; exact (Nat.min_self _).symm
        · intro hpos
          rw [intV_len] at hpos
          obtain ⟨b, off, had, _, hc⟩ := r1.at (k := 0) (by rw [intV_len]; exact hpos)
          obtain rfl := Option.some.inj had
          have hcc : ∀ j v, (intV xs)[j]? = some v → w1.cell? ((⟨b, off, none⟩ : Addr).add j) = some v := fun j v hv => by
            rw [Addr.add_lit]
            exact hc j v hv
          first
            | exact hcc
            | exact ⟨rfl, _, rfl, hcc⟩
        · rw [intV_len, hcur]; omega
        · intro v hv
          obtain ⟨y, _, rfl⟩ := List.mem_map.1 hv
          rfl
        intro w2 hg2 hb2
        have hsp : splice cur 0 (intV xs) = intV xs := by
          unfold splice
          rw [List.take_zero, List.nil_append, Nat.zero_add, List.drop_of_length_le (by rw [intV_len, hcur]; exact Nat.le_refl _), List.append_nil]
        have r2 : Row w2 (some ⟨wc.heap.size, 0, none⟩) (intV xs) := by
          have hg3 := hg2.out
          rw [hsp] at hg3
          refine .inr ⟨wc.heap.size, 0, rfl, (Array.getElem?_eq_some_iff.1 hg3).1, fun j u hu => ?_⟩
          rw [Nat.zero_add, cell_of_row w2 wc.heap.size j _ _ (0, 0) hg3]
          simpa using hu
        clear hg hg2 hsp r1 hb
        go_wp2_with fail
        go_meet
        exact ⟨_, _, rfl, r2, hb2⟩
    case rest =>
      obtain ⟨a2, c2, rfl, r2, hb2⟩ := hcut
      have r1' := r1.below (Nat.le_refl _) hb2
      have hb12 := hb1.trans (hb2.mono hb1.size)
      clear hq2 hrowb1 r1 hb1 hb2
      go_wp2_with fail
      refine (zzIndexInts_any a1 a2 c1 c2 vs xs _ (by omega) (by omega) r1' r2).mono ?_
      rintro e w2 ⟨rfl, hb3⟩
      have r1'' := r1'.below (Nat.le_refl _) hb3
      have r2'' := r2.below (Nat.le_refl _) hb3
      have hb13 := hb12.trans (hb3.mono hb12.size)
      clear r1' r2 hb12 hb3
      obtain ⟨os, hos⟩ : ∃ os, os = occs vs xs := ⟨_, rfl⟩
      have HI := zzIndicesArr_any a1 a2 c1 c2 vs xs w2 (by omega) (by omega) r1'' r2''
      rw [← hos] at HI ⊢
      have HI' : Hid (Calls Tryz.prog 16 _ w2 _) := HI
      clear HI hos r1'' r2''
      cases os with
      | nil =>
        unfold intOrNil
        go_wp2_with fail
        refine HI'.out.mono ?_
        rintro e w3 ⟨a3, c3, rfl, r3, hb3⟩
        go_wp2
        go_ret
        exact ⟨rfl, hb13.trans (hb3.mono hb13.size)⟩
      | cons o os =>
        unfold intOrNil
        go_wp2_with fail
        refine HI'.out.mono ?_
        rintro e w3 ⟨a3, c3, rfl, r3, hb3⟩
        obtain ⟨b3, off, rfl, hbw, hc⟩ := r3.at (k := 0) (by rw [intV_len]; simp)
        have hck : w3.cell? ⟨b3, off + 0, none⟩ = some (.int .i64 o) := hc 0 _ rfl
        rw [Nat.add_zero] at hck
        go_wp2
        go_ret
        exact ⟨rfl, hb13.trans (hb3.mono hb13.size)⟩
end Go.Proofs.YtnboibamehjdgaaGreatDoor
