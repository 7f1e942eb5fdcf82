/-
  sortInts, the law's own merge sort: its walk (folder n001_68).
-/
import Derived.Test.YtheochfpidahmaaGreatDoorUniqP
import Derived.Test.YtheochfpidahmaaGreatDoorMs
import Derived.Laws.CopyOwn
import Derived.Deep.LoopGhost
namespace Go.Proofs.YtheochfpidahmaaGreatDoor
open Go Go.RowKit Go.Sort

theorem Tryz.infoIntS : (Tryz.prog.info? 3).map (fun i => (i.zero, i.size, i.bytes)) = some (some (.int .i64 0), 1, 8) := by kernel_rfl
theorem sizeIntS : (Tryz.prog.info? 3).map (·.size) = some 1 := by kernel_rfl

/-- A row of ints in a block of its own, none of its cells frozen. -/
def RW (w : World) (g : Nat) (A : List Int) : Prop := ∀ j (h : j < A.length), w.cell? ⟨g, j, none⟩ = some (.int .i64 A[j]) ∧ w.frozen? ⟨g, j, none⟩ = false
theorem RW.other {w : World} {g g' : Nat} {A : List Int} (h : RW w g A) (hne : g ≠ g') (k : Nat) (u : Value) : RW (w.setCell ⟨g', k, none⟩ u) g A := fun j hj => by
  rw [setCell_eq, cell?_mapBlock_other _ _ _ _ hne, frozen?_mapBlock]
  exact h j hj
theorem RW.store {w : World} {g : Nat} {A : List Int} (h : RW w g A) {k : Nat} (hk : k < A.length) (v : Int) : RW (w.setCell ⟨g, k, none⟩ (.int .i64 v)) g (A.set k v) := by
  intro j hj
  have hj' : j < A.length := by simpa using hj
  obtain ⟨c, e, fr, hb, hc⟩ := cells_of_cell? (h k hk).1
  obtain ⟨c', e', fr', hb', hc'⟩ := cells_of_cell? (h j hj').1
  rw [hb] at hb'
  injection hb' with hb'
  injection hb' with hcc
  subst hcc
  rw [setCell_eq]
  refine ⟨?_, by rw [frozen?_mapBlock]; exact (h j hj').2⟩
  rw [cell?_mapBlock w g _ _ hb, Array.getElem?_setIfInBounds]
  by_cases e : k = j
  · subst e
    have : k < c.size := (Array.getElem?_eq_some_iff.1 hc).1
    rw [if_pos rfl, if_pos this]
    simp
  · rw [if_neg e, hc', List.getElem_set_ne e]
theorem RW.below {w w' : World} {g B : Nat} {A : List Int} (h : RW w g A) (hg : g < B) (hb : Below B w w') : RW w' g A := fun j hj => by
  rw [hb.cell (p := ⟨g, j, none⟩) hg, hb.frozen (p := ⟨g, j, none⟩) hg]
  exact h j hj
theorem RW.row {w : World} {g : Nat} {A : List Int} (h : RW w g A) (hg : g < w.heap.size) : Row w (some ⟨g, 0, none⟩) (intV A) :=
  .inr ⟨g, 0, rfl, hg, fun j u hu => by
    have hj : j < A.length := by
      have := (List.getElem?_eq_some_iff.1 hu).1
      rwa [intV_len] at this
    rw [intV_get A hj] at hu
    rw [Nat.zero_add, ← hu]
    exact (h j hj).1⟩
theorem rw_own {w : World} {base g n cap : Nat} {e : TypeId} {A : List Int} (h : w.ownsRow base e 1 (.slice (some ⟨g, 0, none⟩) n cap) n (intV A)) : RW w g A := fun j hj => by
  have hn : n = A.length := by have := h.1; rw [intV_len] at this; omega
  exact ⟨by rw [h.cellAt j (by omega)]; exact intV_get A hj, h.frozenAt j⟩

/-- sortInts' answer: a row of its own, ascending, the same values. -/
def SortedI (xs : List Int) (w : World) (e : Ending) (w' : World) : Prop :=
  ∃ (g : Nat) (S : List Int), e = .returned (.slice (some ⟨g, 0, none⟩) xs.length xs.length) ∧ Up S ∧ S.Perm xs ∧ Row w' (some ⟨g, 0, none⟩) (intV S) ∧ Below w.heap.size w w'

set_option maxRecDepth 100000 in
set_option maxHeartbeats 6400000 in
theorem sortInts_any (a : Option Addr) (cap : Nat) (xs : List Int) (w : World) (hl : xs.length ≤ 1048576) (hrow : Row w a (intV xs)) :
    Calls Tryz.prog 25 #[.slice a xs.length cap] w (SortedI xs w) := by
  obtain ⟨i0, hi, hz0, hz1, hz2⟩ := info_parts Tryz.infoIntS
  go_enter Tryz.func25, Tryz.ntmps25
  go_wp2_with (at_make; refine wpList_make_full _ rfl _ _ 22 rfl w.heap.size 3 i0 (.int .i64 0) 1 Tryz.underlying22 hi hz0 hz1 _ _ _ _ xs.length rfl rfl rfl rfl ?c1 ?c2 ?c3 ?_)
  case c1 => rw [hz2]; omega
  case c2 => unfold maxLen; omega
  case c3 => omega
  intro w1 hown hgrow
  have hb : Below w.heap.size w w1 := (Below.refl _ _).grown hgrow (Nat.le_refl _) (by intro k hk; cases hk)
  obtain ⟨cur, hg, hcur⟩ : ∃ cur : List Value, Hid (w1.heap[w.heap.size]? = some (.cells cur.toArray 3 (0, 0))) ∧ cur.length = xs.length := by
    rcases hown.2 with ⟨h, _⟩ | ⟨g, cap', cur, h, _, hg, _, _, hs, _⟩
    · cases h
    · simp only [Value.slice.injEq, Option.some.injEq, Addr.mk.injEq, and_true, true_and] at h
      obtain ⟨rfl, rfl⟩ := h
      exact ⟨cur.toList, by show _ = _; simpa using hg, by simpa using hs⟩
  have r1 := hrow.below (Nat.le_refl _) hb
  clear hown hgrow
  go_wp2_with (with_reducible refine wpList_copy_splice rfl _ _ 22 22 rfl 3 Tryz.underlying22 sizeIntS (some ⟨w.heap.size, 0, none⟩) a xs.length xs.length xs.length cap rfl rfl w.heap.size 0 cur 3 hg.out (intV xs) ?_ ?_ ?_ ?_ w.heap.size w hb (Nat.le_refl _) ?_)
  · rw [intV_len]; exact (Nat.min_self _).symm
  · intro hpos
    rw [intV_len] at hpos
    obtain ⟨b, off, rfl, _, hc⟩ := r1.at (k := 0) (by rw [intV_len]; exact hpos)
    have hcc : ∀ j v, (intV xs)[j]? = some v → w1.cell? ((⟨b, off, none⟩ : Addr).add j) = some v := fun j v hv => by
      rw [Addr.add_lit]
      exact hc j v hv
    first
      | exact hcc
      | exact ⟨rfl, _, rfl, hcc⟩
      | exact ⟨_, rfl, hcc⟩
  · rw [intV_len, hcur]; omega
  · intro v hv
    obtain ⟨y, _, rfl⟩ := List.mem_map.1 hv
    rfl
  intro w2 hg2 hb2
  have hsp : splice cur 0 (intV xs) = intV xs := by
    unfold splice
    rw [List.take_zero, List.nil_append, Nat.zero_add, List.drop_of_length_le (by rw [intV_len, hcur]; exact Nat.le_refl _), List.append_nil]
  have hg3 := hg2.out
  rw [hsp] at hg3
  have hlt2 : w.heap.size < w2.heap.size := (Array.getElem?_eq_some_iff.1 hg3).1
  have hA : RW w2 w.heap.size xs := fun j hj => ⟨by rw [cell_of_row w2 w.heap.size j _ _ (0, 0) hg3]; simpa using intV_get xs hj, by simp [World.frozen?, hg3]⟩
  clear hg hg2 hsp hg3 r1 hb
  go_wp2_with (at_make; refine wpList_make_full _ rfl _ _ 22 rfl w2.heap.size 3 i0 (.int .i64 0) 1 Tryz.underlying22 hi hz0 hz1 _ _ _ _ xs.length rfl rfl rfl rfl ?c1 ?c2 ?c3 ?_)
  case c1 => rw [hz2]; omega
  case c2 => unfold maxLen; omega
  case c3 => omega
  intro w3 hown hgrow
  have hb3 : Below w2.heap.size w2 w3 := (Below.refl _ _).grown hgrow (Nat.le_refl _) (by intro k hk; cases hk)
  have hB : RW w3 w2.heap.size (List.replicate xs.length 0) := by
    refine rw_own (base := w2.heap.size) (e := 3) (n := xs.length) (cap := xs.length) ?_
    rw [show intV (List.replicate xs.length 0) = List.replicate xs.length (.int .i64 0) by simp [intV]]
    simpa [Value.cells, toList_madeCells_one] using hown
  have hA3 := hA.below hlt2 hb3
  have hlt3 : w2.heap.size < w3.heap.size := (hown.lt w2.heap.size rfl).2
  have hb03 : Below w.heap.size w w3 := hb2.trans (hb3.mono hb2.size)
  clear hown hgrow hA hb2 hb3 hrow
  go_wp2
  go_loopg [3, 4, 5] (xs.length) (fun gk va vb vw wr => ∃ (ga gb wd : Nat) (A B : List Int), va = .slice (some ⟨ga, 0, none⟩) xs.length xs.length ∧ vb = .slice (some ⟨gb, 0, none⟩) xs.length xs.length ∧ vw = .int .i64 wd ∧ 1 ≤ wd ∧ wd ≤ 2 * xs.length + 1 ∧ xs.length - wd ≤ gk ∧ A.length = xs.length ∧ B.length = xs.length ∧ ga ≠ gb ∧ w.heap.size ≤ ga ∧ w.heap.size ≤ gb ∧ ga < wr.heap.size ∧ gb < wr.heap.size ∧
      Hid (Ch wd A) ∧ Hid (A.Perm xs) ∧ Hid (RW wr ga A) ∧ Hid (RW wr gb B) ∧ Below w.heap.size w wr)
  case atStart => exact ⟨w.heap.size, w2.heap.size, 1, xs, List.replicate xs.length 0, rfl, rfl, rfl, by omega, by omega, by omega, rfl, by simp, by omega, by omega, by omega, by omega, hlt3, ch_one xs, List.Perm.refl _, hA3, hB, hb03⟩
  case round =>
    clear hA3 hB hb03
    obtain ⟨ga, gb, wd, A, B, rfl, rfl, rfl, hw1, hw2, hgk, hAl, hBl, hne, hga, hgb, hga2, hgb2, HCh, HPm, HA, HB, hbr⟩ := hrel
    by_cases hwn : wd < xs.length
    · have HPass0 : Hid (Pass wd A B 0) := Pass.start (by omega) (by omega) HCh.out
      go_wp2
      obtain ⟨w4, hw4⟩ : ∃ w4, w4 = wr := ⟨_, rfl⟩
      subst hw4
      go_loopg [6] (xs.length) (fun gk2 vlo wr => ∃ (lo : Nat) (B : List Int), vlo = .int .i64 lo ∧ lo ≤ xs.length + 2 * wd ∧ xs.length - lo ≤ gk2 ∧ Hid (Pass wd A B lo) ∧ Hid (RW wr ga A) ∧ Hid (RW wr gb B) ∧ ga < wr.heap.size ∧ gb < wr.heap.size ∧ Below w.heap.size w wr)
      case atStart => exact ⟨0, B, rfl, by omega, by omega, HPass0, HA, HB, hga2, hgb2, hbr⟩
      case round =>
        clear HPass0 HA HB hbr hga2 hgb2 hBl
        obtain ⟨lo, B, rfl, hlo2, hgk2, HPass, HA, HB, hga2, hgb2, hbr⟩ := hrel
        have hBl := HPass.out.1
        by_cases hlo : lo < xs.length
        · obtain ⟨mid, hmid⟩ : ∃ mid, mid = min (lo + wd) xs.length := ⟨_, rfl⟩
          obtain ⟨hi', hhi⟩ : ∃ hi', hi' = min (lo + 2 * wd) xs.length := ⟨_, rfl⟩
          have hfacts : lo ≤ mid ∧ mid ≤ hi' ∧ hi' ≤ xs.length ∧ mid ≤ xs.length := by omega
          have HMID : Hid (mid = min (lo + wd) xs.length) := hmid
          have HHI : Hid (hi' = min (lo + 2 * wd) xs.length) := hhi
          obtain ⟨T, hT⟩ : ∃ T, T = target A B lo mid hi' := ⟨_, rfl⟩
          have HT : Hid (T = target A B lo mid hi') := hT
          have HM0 : Hid (Mid A B T lo mid mid hi' lo) := hT.symm
          clear hmid hhi hT
          go_upto_if 41 with fail
          go_cut [7] from 27 to 121 (fun v7 wx => v7 = .int .i64 mid ∧ wx = wr)
          case first =>
            have hm2 := HMID.out
            by_cases c : xs.length < lo + wd
            · have hd : decide ((lo : Int) + (wd : Int) > (xs.length : Int)) = true := decide_eq_true (by omega)
              go_wp2
              go_meet
              case rel => exact ⟨by congr 1; omega, rfl⟩
            · have hd : decide ((lo : Int) + (wd : Int) > (xs.length : Int)) = false := decide_eq_false (by omega)
              go_wp2
              go_meet
              case rel => exact ⟨by congr 1; omega, rfl⟩
          case rest =>
          obtain ⟨rfl, rfl⟩ := hcut
          go_upto_if 51 with fail
          go_cut [8] from 27 to 121 (fun v8 wx => v8 = .int .i64 hi' ∧ wx = wc)
          case first =>
            have hm2 := HHI.out
            by_cases c : xs.length < lo + 2 * wd
            · have hd : decide ((lo : Int) + 2 * (wd : Int) > (xs.length : Int)) = true := decide_eq_true (by omega)
              go_wp2
              go_meet
              case rel => exact ⟨by congr 1; omega, rfl⟩
            · have hd : decide ((lo : Int) + 2 * (wd : Int) > (xs.length : Int)) = false := decide_eq_false (by omega)
              go_wp2
              go_meet
              case rel => exact ⟨by congr 1; omega, rfl⟩
          case rest =>
          obtain ⟨rfl, rfl⟩ := hcut
          obtain ⟨f1, f2, f3, f4⟩ := hfacts
          go_wp2
          go_loopw [9, 10, 11] (fun vi vj vk wr => ∃ (i j k : Nat) (B' : List Int), vi = .int .i64 i ∧ vj = .int .i64 j ∧ vk = .int .i64 k ∧ i ≤ mid ∧ mid ≤ j ∧ lo ≤ i ∧ j ≤ hi' ∧ k + mid = i + j ∧ B'.length = xs.length ∧ Hid (Mid A B' T i mid j hi' k) ∧ Hid (RW wr ga A) ∧ Hid (RW wr gb B') ∧ ga < wr.heap.size ∧ gb < wr.heap.size ∧ Below w.heap.size w wr)
            (fun vi vj _ _ => (mid - (intOf vi).toNat) + (hi' - (intOf vj).toNat))
          case atStart => exact ⟨lo, mid, lo, B, rfl, rfl, rfl, f1, Nat.le_refl _, Nat.le_refl _, f2, by omega, by omega, HM0, HA, HB, hga2, hgb2, hbr⟩
          case round =>
            clear HM0 HA HB hbr hga2 hgb2 hBl
            obtain ⟨i, j, k, B', rfl, rfl, rfl, him, hmj, hli, hjh, hk, hBl2, HM, HA, HB, hga2, hgb2, hbr⟩ := hrel
            by_cases hgo : i < mid ∧ j < hi'
            · obtain ⟨hi1, hj1⟩ := hgo
              obtain ⟨x, hx⟩ : ∃ x, A[i]'(by omega) = x := ⟨_, rfl⟩
              obtain ⟨y, hy⟩ : ∃ y, A[j]'(by omega) = y := ⟨_, rfl⟩
              have cA1 := (HA.out i (by omega)).1
              have cA2 := (HA.out j (by omega)).1
              rw [hx] at cA1
              rw [hy] at cA2
              obtain ⟨bv, cB⟩ : ∃ bv, wr.cell? ⟨gb, k, none⟩ = some (.int .i64 bv) := ⟨_, (HB.out k (by omega)).1⟩
              have fB := (HB.out k (by omega)).2
              have hkI : (k : Int) < (xs.length : Int) := by omega
              have hiI : (i : Int) < (xs.length : Int) := by omega
              have hjI : (j : Int) < (xs.length : Int) := by omega
              have hd1 : decide ((i : Int) < (mid : Int)) = true := decide_eq_true (by omega)
              have hd2 : decide ((j : Int) < (hi' : Int)) = true := decide_eq_true (by omega)
              by_cases c : y < x
              · have HM2 : Hid (Mid A (B'.set k y) T i mid (j + 1) hi' (k + 1)) := by
                  have := HM.out.right hi1 hj1 (by omega) (by omega) (by omega) (by rw [hx, hy]; exact c)
                  rw [hy] at this
                  exact this
                have HR : Hid (∀ q, Hid (RW ((wr.setCell ⟨gb, k, none⟩ (.int .i64 y)).drewN q) ga A) ∧ Hid (RW ((wr.setCell ⟨gb, k, none⟩ (.int .i64 y)).drewN q) gb (B'.set k y)) ∧ ga < ((wr.setCell ⟨gb, k, none⟩ (.int .i64 y)).drewN q).heap.size ∧ gb < ((wr.setCell ⟨gb, k, none⟩ (.int .i64 y)).drewN q).heap.size ∧ Below w.heap.size w ((wr.setCell ⟨gb, k, none⟩ (.int .i64 y)).drewN q)) := fun q =>
                  ⟨HA.out.other hne k _, HB.out.store (by omega) y, by show ga < (wr.setCell ⟨gb, k, none⟩ (.int .i64 y)).heap.size; simpa [World.setCell] using hga2, by show gb < (wr.setCell ⟨gb, k, none⟩ (.int .i64 y)).heap.size; simpa [World.setCell] using hgb2, (hbr.setCell (p := ⟨gb, k, none⟩) hgb _).trans ⟨rfl, rfl, rfl, Nat.le_refl _, fun _ _ => rfl⟩⟩
                have hlen2 : (B'.set k y).length = xs.length := by simpa using hBl2
                have hd3 : decide (y < x) = true := decide_eq_true c
                clear HM HA HB hBl2 hbr hx hy
                go_wp2_with fail
                go_quiet (fail)
                go_wp2
                go_roundw
                case rel =>
                  obtain ⟨q1, q2, q3, q4, q5⟩ := HR.out nq
                  exact ⟨i, j + 1, k + 1, _, rfl, by go_num, by go_num, him, by omega, hli, by omega, by omega, hlen2, HM2, q1, q2, q3, q4, q5⟩
                case measure => simp [intOf]; omega
              · have HM2 : Hid (Mid A (B'.set k x) T (i + 1) mid j hi' (k + 1)) := by
                  have := HM.out.left hi1 hj1 (by omega) (by omega) (by omega) (by rw [hx, hy]; exact c)
                  rw [hx] at this
                  exact this
                have HR : Hid (∀ q, Hid (RW ((wr.setCell ⟨gb, k, none⟩ (.int .i64 x)).drewN q) ga A) ∧ Hid (RW ((wr.setCell ⟨gb, k, none⟩ (.int .i64 x)).drewN q) gb (B'.set k x)) ∧ ga < ((wr.setCell ⟨gb, k, none⟩ (.int .i64 x)).drewN q).heap.size ∧ gb < ((wr.setCell ⟨gb, k, none⟩ (.int .i64 x)).drewN q).heap.size ∧ Below w.heap.size w ((wr.setCell ⟨gb, k, none⟩ (.int .i64 x)).drewN q)) := fun q =>
                  ⟨HA.out.other hne k _, HB.out.store (by omega) x, by show ga < (wr.setCell ⟨gb, k, none⟩ (.int .i64 x)).heap.size; simpa [World.setCell] using hga2, by show gb < (wr.setCell ⟨gb, k, none⟩ (.int .i64 x)).heap.size; simpa [World.setCell] using hgb2, (hbr.setCell (p := ⟨gb, k, none⟩) hgb _).trans ⟨rfl, rfl, rfl, Nat.le_refl _, fun _ _ => rfl⟩⟩
                have hlen2 : (B'.set k x).length = xs.length := by simpa using hBl2
                have hd3 : decide (y < x) = false := decide_eq_false c
                clear HM HA HB hBl2 hbr hx hy
                go_wp2_with fail
                go_quiet (fail)
                go_wp2
                go_roundw
                case rel =>
                  obtain ⟨q1, q2, q3, q4, q5⟩ := HR.out nq
                  exact ⟨i + 1, j, k + 1, _, by go_num, rfl, by go_num, by omega, by omega, by omega, by omega, by omega, hlen2, HM2, q1, q2, q3, q4, q5⟩
                case measure => simp [intOf]; omega
            · rcases (show (i < mid ∧ ¬ j < hi') ∨ ¬ i < mid by omega) with ⟨h1, h2⟩ | h1
              · have hd1 : decide ((i : Int) < (mid : Int)) = true := decide_eq_true (by omega)
                have hd2 : decide ((j : Int) < (hi' : Int)) = false := decide_eq_false (by omega)
                go_wp2
                go_loopw [9, 11] (fun vi vk wr => ∃ (i k : Nat) (B' : List Int), vi = .int .i64 i ∧ vk = .int .i64 k ∧ i ≤ mid ∧ lo ≤ i ∧ k + mid = i + j ∧ (i < mid → hi' ≤ j) ∧ B'.length = xs.length ∧ Hid (Mid A B' T i mid j hi' k) ∧ Hid (RW wr ga A) ∧ Hid (RW wr gb B') ∧ ga < wr.heap.size ∧ gb < wr.heap.size ∧ Below w.heap.size w wr)
                  (fun vi _ _ => mid - (intOf vi).toNat)
                case atStart => exact ⟨i, k, B', rfl, rfl, him, hli, hk, by omega, hBl2, HM, HA, HB, hga2, hgb2, hbr⟩
                case round =>
                  clear HA HB HM hBl2 hbr hga2 hgb2 hk him hli
                  obtain ⟨i, k, B', rfl, rfl, him, hli, hk, hij, hBl2, HM, HA, HB, hga2, hgb2, hbr⟩ := hrel
                  by_cases hi1 : i < mid
                  · obtain ⟨x, hx⟩ : ∃ x, A[i]'(by omega) = x := ⟨_, rfl⟩
                    have cA := (HA.out i (by omega)).1
                    rw [hx] at cA
                    have hj1 := hij hi1
                    obtain ⟨bv, cB⟩ : ∃ bv, wr.cell? ⟨gb, k, none⟩ = some (.int .i64 bv) := ⟨_, (HB.out k (by omega)).1⟩
                    have fB := (HB.out k (by omega)).2
                    have hkI : (k : Int) < (xs.length : Int) := by omega
                    have HM2 : Hid (Mid A (B'.set k x) T (i + 1) mid j hi' (k + 1)) := by
                      have := HM.out.restL hi1 hj1 (by omega) (by omega)
                      rw [hx] at this
                      exact this
                    have HR : Hid (∀ q, Hid (RW ((wr.setCell ⟨gb, k, none⟩ (.int .i64 x)).drewN q) ga A) ∧ Hid (RW ((wr.setCell ⟨gb, k, none⟩ (.int .i64 x)).drewN q) gb (B'.set k x)) ∧ ga < ((wr.setCell ⟨gb, k, none⟩ (.int .i64 x)).drewN q).heap.size ∧ gb < ((wr.setCell ⟨gb, k, none⟩ (.int .i64 x)).drewN q).heap.size ∧ Below w.heap.size w ((wr.setCell ⟨gb, k, none⟩ (.int .i64 x)).drewN q)) := fun q =>
                      ⟨HA.out.other hne k _, HB.out.store (by omega) x, by show ga < (wr.setCell ⟨gb, k, none⟩ (.int .i64 x)).heap.size; simpa [World.setCell] using hga2, by show gb < (wr.setCell ⟨gb, k, none⟩ (.int .i64 x)).heap.size; simpa [World.setCell] using hgb2, (hbr.setCell (p := ⟨gb, k, none⟩) hgb _).trans ⟨rfl, rfl, rfl, Nat.le_refl _, fun _ _ => rfl⟩⟩
                    have hlen2 : (B'.set k x).length = xs.length := by simpa using hBl2
                    have hiI : (i : Int) < (xs.length : Int) := by omega
                    have hd1 : decide ((i : Int) < (mid : Int)) = true := decide_eq_true (by omega)
                    clear HM HA HB hBl2 hbr hx
                    go_wp2
                    go_roundw
                    case rel =>
                      obtain ⟨q1, q2, q3, q4, q5⟩ := HR.out 0
                      exact ⟨i + 1, k + 1, _, by go_num, by go_num, by omega, by omega, by omega, fun _ => hj1, hlen2, HM2, q1, q2, q3, q4, q5⟩
                    case measure => simp [intOf]; omega
                  · have hd1 : decide ((i : Int) < (mid : Int)) = false := decide_eq_false (by omega)
                    go_wp2
                    go_loopw [10, 11] (fun vj vk wr => ∃ (j k : Nat) (B' : List Int), vj = .int .i64 j ∧ vk = .int .i64 k ∧ mid ≤ j ∧ j ≤ hi' ∧ k + mid = i + j ∧ B'.length = xs.length ∧ Hid (Mid A B' T i mid j hi' k) ∧ Hid (RW wr ga A) ∧ Hid (RW wr gb B') ∧ ga < wr.heap.size ∧ gb < wr.heap.size ∧ Below w.heap.size w wr)
                      (fun vj _ _ => hi' - (intOf vj).toNat)
                    case atStart => exact ⟨j, k, B', rfl, rfl, hmj, hjh, hk, hBl2, HM, HA, HB, hga2, hgb2, hbr⟩
                    case round =>
                      clear HA HB HM hBl2 hbr hga2 hgb2 hk hmj hjh hij
                      obtain ⟨j, k, B', rfl, rfl, hmj, hjh, hk, hBl2, HM, HA, HB, hga2, hgb2, hbr⟩ := hrel
                      by_cases hj1 : j < hi'
                      · obtain ⟨y, hy⟩ : ∃ y, A[j]'(by omega) = y := ⟨_, rfl⟩
                        have cA := (HA.out j (by omega)).1
                        rw [hy] at cA
                        obtain ⟨bv, cB⟩ : ∃ bv, wr.cell? ⟨gb, k, none⟩ = some (.int .i64 bv) := ⟨_, (HB.out k (by omega)).1⟩
                        have fB := (HB.out k (by omega)).2
                        have hkI : (k : Int) < (xs.length : Int) := by omega
                        have HM2 : Hid (Mid A (B'.set k y) T i mid (j + 1) hi' (k + 1)) := by
                          have := HM.out.restR (by omega) hj1 (by omega) (by omega)
                          rw [hy] at this
                          exact this
                        have HR : Hid (∀ q, Hid (RW ((wr.setCell ⟨gb, k, none⟩ (.int .i64 y)).drewN q) ga A) ∧ Hid (RW ((wr.setCell ⟨gb, k, none⟩ (.int .i64 y)).drewN q) gb (B'.set k y)) ∧ ga < ((wr.setCell ⟨gb, k, none⟩ (.int .i64 y)).drewN q).heap.size ∧ gb < ((wr.setCell ⟨gb, k, none⟩ (.int .i64 y)).drewN q).heap.size ∧ Below w.heap.size w ((wr.setCell ⟨gb, k, none⟩ (.int .i64 y)).drewN q)) := fun q =>
                          ⟨HA.out.other hne k _, HB.out.store (by omega) y, by show ga < (wr.setCell ⟨gb, k, none⟩ (.int .i64 y)).heap.size; simpa [World.setCell] using hga2, by show gb < (wr.setCell ⟨gb, k, none⟩ (.int .i64 y)).heap.size; simpa [World.setCell] using hgb2, (hbr.setCell (p := ⟨gb, k, none⟩) hgb _).trans ⟨rfl, rfl, rfl, Nat.le_refl _, fun _ _ => rfl⟩⟩
                        have hlen2 : (B'.set k y).length = xs.length := by simpa using hBl2
                        have hjI : (j : Int) < (xs.length : Int) := by omega
                        have hd2 : decide ((j : Int) < (hi' : Int)) = true := decide_eq_true (by omega)
                        clear HM HA HB hBl2 hbr hy
                        go_wp2
                        go_roundw
                        case rel =>
                          obtain ⟨q1, q2, q3, q4, q5⟩ := HR.out 0
                          exact ⟨j + 1, k + 1, _, by go_num, by go_num, by omega, by omega, by omega, hlen2, HM2, q1, q2, q3, q4, q5⟩
                        case measure => simp [intOf]; omega
                      · have hd2 : decide ((j : Int) < (hi' : Int)) = false := decide_eq_false (by omega)
                        have HP2 : Hid (Pass wd A B' (lo + 2 * wd)) := by
                          refine Pass.step (mid := mid) (hi := hi') HPass.out (by omega) (by rw [hAl]; exact HMID.out) (by rw [hAl]; exact HHI.out) (by omega) ?_
                          have := HM.out.done (by omega) (by omega)
                          rw [show k = hi' by omega] at this
                          exact this.trans HT.out
                        clear HM HPass
                        go_wp2
                        go_roundg (xs.length - (lo + 2 * wd))
                        case measure => omega
                        case rel => exact ⟨lo + 2 * wd, B', by congr 1, by omega, Nat.le_refl _, HP2, HA, HB, hga2, hgb2, hbr⟩
              · have hd1 : decide ((i : Int) < (mid : Int)) = false := decide_eq_false (by omega)
                go_wp2
                go_loopw [9, 11] (fun vi vk wr => ∃ (i k : Nat) (B' : List Int), vi = .int .i64 i ∧ vk = .int .i64 k ∧ i ≤ mid ∧ lo ≤ i ∧ k + mid = i + j ∧ (i < mid → hi' ≤ j) ∧ B'.length = xs.length ∧ Hid (Mid A B' T i mid j hi' k) ∧ Hid (RW wr ga A) ∧ Hid (RW wr gb B') ∧ ga < wr.heap.size ∧ gb < wr.heap.size ∧ Below w.heap.size w wr)
                  (fun vi _ _ => mid - (intOf vi).toNat)
                case atStart => exact ⟨i, k, B', rfl, rfl, him, hli, hk, by omega, hBl2, HM, HA, HB, hga2, hgb2, hbr⟩
                case round =>
                  clear HA HB HM hBl2 hbr hga2 hgb2 hk him hli
                  obtain ⟨i, k, B', rfl, rfl, him, hli, hk, hij, hBl2, HM, HA, HB, hga2, hgb2, hbr⟩ := hrel
                  by_cases hi1 : i < mid
                  · obtain ⟨x, hx⟩ : ∃ x, A[i]'(by omega) = x := ⟨_, rfl⟩
                    have cA := (HA.out i (by omega)).1
                    rw [hx] at cA
                    have hj1 := hij hi1
                    obtain ⟨bv, cB⟩ : ∃ bv, wr.cell? ⟨gb, k, none⟩ = some (.int .i64 bv) := ⟨_, (HB.out k (by omega)).1⟩
                    have fB := (HB.out k (by omega)).2
                    have hkI : (k : Int) < (xs.length : Int) := by omega
                    have HM2 : Hid (Mid A (B'.set k x) T (i + 1) mid j hi' (k + 1)) := by
                      have := HM.out.restL hi1 hj1 (by omega) (by omega)
                      rw [hx] at this
                      exact this
                    have HR : Hid (∀ q, Hid (RW ((wr.setCell ⟨gb, k, none⟩ (.int .i64 x)).drewN q) ga A) ∧ Hid (RW ((wr.setCell ⟨gb, k, none⟩ (.int .i64 x)).drewN q) gb (B'.set k x)) ∧ ga < ((wr.setCell ⟨gb, k, none⟩ (.int .i64 x)).drewN q).heap.size ∧ gb < ((wr.setCell ⟨gb, k, none⟩ (.int .i64 x)).drewN q).heap.size ∧ Below w.heap.size w ((wr.setCell ⟨gb, k, none⟩ (.int .i64 x)).drewN q)) := fun q =>
                      ⟨HA.out.other hne k _, HB.out.store (by omega) x, by show ga < (wr.setCell ⟨gb, k, none⟩ (.int .i64 x)).heap.size; simpa [World.setCell] using hga2, by show gb < (wr.setCell ⟨gb, k, none⟩ (.int .i64 x)).heap.size; simpa [World.setCell] using hgb2, (hbr.setCell (p := ⟨gb, k, none⟩) hgb _).trans ⟨rfl, rfl, rfl, Nat.le_refl _, fun _ _ => rfl⟩⟩
                    have hlen2 : (B'.set k x).length = xs.length := by simpa using hBl2
                    have hiI : (i : Int) < (xs.length : Int) := by omega
                    have hd1 : decide ((i : Int) < (mid : Int)) = true := decide_eq_true (by omega)
                    clear HM HA HB hBl2 hbr hx
                    go_wp2
                    go_roundw
                    case rel =>
                      obtain ⟨q1, q2, q3, q4, q5⟩ := HR.out 0
                      exact ⟨i + 1, k + 1, _, by go_num, by go_num, by omega, by omega, by omega, fun _ => hj1, hlen2, HM2, q1, q2, q3, q4, q5⟩
                    case measure => simp [intOf]; omega
                  · have hd1 : decide ((i : Int) < (mid : Int)) = false := decide_eq_false (by omega)
                    go_wp2
                    go_loopw [10, 11] (fun vj vk wr => ∃ (j k : Nat) (B' : List Int), vj = .int .i64 j ∧ vk = .int .i64 k ∧ mid ≤ j ∧ j ≤ hi' ∧ k + mid = i + j ∧ B'.length = xs.length ∧ Hid (Mid A B' T i mid j hi' k) ∧ Hid (RW wr ga A) ∧ Hid (RW wr gb B') ∧ ga < wr.heap.size ∧ gb < wr.heap.size ∧ Below w.heap.size w wr)
                      (fun vj _ _ => hi' - (intOf vj).toNat)
                    case atStart => exact ⟨j, k, B', rfl, rfl, hmj, hjh, hk, hBl2, HM, HA, HB, hga2, hgb2, hbr⟩
                    case round =>
                      clear HA HB HM hBl2 hbr hga2 hgb2 hk hmj hjh hij
                      obtain ⟨j, k, B', rfl, rfl, hmj, hjh, hk, hBl2, HM, HA, HB, hga2, hgb2, hbr⟩ := hrel
                      by_cases hj1 : j < hi'
                      · obtain ⟨y, hy⟩ : ∃ y, A[j]'(by omega) = y := ⟨_, rfl⟩
                        have cA := (HA.out j (by omega)).1
                        rw [hy] at cA
                        obtain ⟨bv, cB⟩ : ∃ bv, wr.cell? ⟨gb, k, none⟩ = some (.int .i64 bv) := ⟨_, (HB.out k (by omega)).1⟩
                        have fB := (HB.out k (by omega)).2
                        have hkI : (k : Int) < (xs.length : Int) := by omega
                        have HM2 : Hid (Mid A (B'.set k y) T i mid (j + 1) hi' (k + 1)) := by
                          have := HM.out.restR (by omega) hj1 (by omega) (by omega)
                          rw [hy] at this
                          exact this
                        have HR : Hid (∀ q, Hid (RW ((wr.setCell ⟨gb, k, none⟩ (.int .i64 y)).drewN q) ga A) ∧ Hid (RW ((wr.setCell ⟨gb, k, none⟩ (.int .i64 y)).drewN q) gb (B'.set k y)) ∧ ga < ((wr.setCell ⟨gb, k, none⟩ (.int .i64 y)).drewN q).heap.size ∧ gb < ((wr.setCell ⟨gb, k, none⟩ (.int .i64 y)).drewN q).heap.size ∧ Below w.heap.size w ((wr.setCell ⟨gb, k, none⟩ (.int .i64 y)).drewN q)) := fun q =>
                          ⟨HA.out.other hne k _, HB.out.store (by omega) y, by show ga < (wr.setCell ⟨gb, k, none⟩ (.int .i64 y)).heap.size; simpa [World.setCell] using hga2, by show gb < (wr.setCell ⟨gb, k, none⟩ (.int .i64 y)).heap.size; simpa [World.setCell] using hgb2, (hbr.setCell (p := ⟨gb, k, none⟩) hgb _).trans ⟨rfl, rfl, rfl, Nat.le_refl _, fun _ _ => rfl⟩⟩
                        have hlen2 : (B'.set k y).length = xs.length := by simpa using hBl2
                        have hjI : (j : Int) < (xs.length : Int) := by omega
                        have hd2 : decide ((j : Int) < (hi' : Int)) = true := decide_eq_true (by omega)
                        clear HM HA HB hBl2 hbr hy
                        go_wp2
                        go_roundw
                        case rel =>
                          obtain ⟨q1, q2, q3, q4, q5⟩ := HR.out 0
                          exact ⟨j + 1, k + 1, _, by go_num, by go_num, by omega, by omega, by omega, hlen2, HM2, q1, q2, q3, q4, q5⟩
                        case measure => simp [intOf]; omega
                      · have hd2 : decide ((j : Int) < (hi' : Int)) = false := decide_eq_false (by omega)
                        have HP2 : Hid (Pass wd A B' (lo + 2 * wd)) := by
                          refine Pass.step (mid := mid) (hi := hi') HPass.out (by omega) (by rw [hAl]; exact HMID.out) (by rw [hAl]; exact HHI.out) (by omega) ?_
                          have := HM.out.done (by omega) (by omega)
                          rw [show k = hi' by omega] at this
                          exact this.trans HT.out
                        clear HM HPass
                        go_wp2
                        go_roundg (xs.length - (lo + 2 * wd))
                        case measure => omega
                        case rel => exact ⟨lo + 2 * wd, B', by congr 1, by omega, Nat.le_refl _, HP2, HA, HB, hga2, hgb2, hbr⟩
        · have hf := HPass.out.finish (by omega)
          have HF1 : Hid (Ch (2 * wd) B) := hf.1
          have HF2 : Hid (B.Perm xs) := hf.2.trans HPm.out
          clear hf HPass HCh HPm
          go_wp2
          go_roundg (xs.length - 2 * wd)
          case measure => omega
          case rel => exact ⟨gb, ga, 2 * wd, B, A, rfl, rfl, by congr 1; omega, by omega, by omega, Nat.le_refl _, by omega, hAl, hne.symm, hgb, hga, hgb2, hga2, HF1, HF2, HB, HA, hbr⟩
    · go_wp2
      go_ret
      exact ⟨ga, A, rfl, HCh.out.whole (by omega), HPm.out, HA.out.row hga2, hbr⟩
end Go.Proofs.YtheochfpidahmaaGreatDoor
