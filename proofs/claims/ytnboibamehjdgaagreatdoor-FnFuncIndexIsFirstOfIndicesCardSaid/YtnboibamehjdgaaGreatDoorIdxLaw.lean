/-
  The law FnFuncIndicesElementIsOneLongArray, walked.
-/
import Derived.Test.YtnboibamehjdgaaGreatDoorIdx4
import Derived.Deep.DeepCutAuto
import Derived.Laws.CopyOwn
namespace Go.Proofs.YtnboibamehjdgaaGreatDoor
open Go Go.RowKit

theorem bytesIntsX_any (a : Option Addr) (cap n : Nat) (x : Int) (w : World) (hl : n ≤ 140737488351232) :
    Calls Tryz.prog 14 #[.slice a n cap, .int .i64 x] w fun e w' => SomeBool e ∧ w = w' := by
  go_enter Tryz.func14, Tryz.ntmps14
  go_wp2
  all_goals (go_ret; exact ⟨⟨_, rfl⟩, rfl⟩)

theorem sizeInt : (Tryz.prog.info? 3).map (·.size) = some 1 := by kernel_rfl

/-- A law's end: true; what was there before is as it was. -/
def Holds (w : World) (e : Ending) (w' : World) : Prop := e = .returned (.bool true) ∧ Below w.heap.size w w'
/-- A slice of ints that reads so. -/
def IsRow (w w' : World) (xs : List Int) (v : Value) : Prop := ∃ a c, v = .slice a xs.length c ∧ Row w' a (intV xs) ∧ Below w.heap.size w w'

set_option maxRecDepth 100000 in
set_option maxHeartbeats 3200000 in
theorem law_FnFuncIndicesElementIsOneLongArray (a : Option Addr) (cap : Nat) (vs : List Int) (x : Int) (w : World) (hl : vs.length ≤ 140737488351232) (ha : a = none → vs = []) (hcap : a = none → cap = 0) (hrow : Row w a (intV vs)) :
    Calls Tryz.prog 5 #[.slice a vs.length cap, .int .i64 x] w (Holds w) := by
  obtain ⟨i0, hi, hz0, hz1, hz2⟩ := info_parts Tryz.infoInt
  have HA : Hid (a = none → vs = []) := ha
  have HC : Hid (a = none → cap = 0) := hcap
  clear ha hcap
  have hq := fun (w : World) => run_neq_slice_nil_any (P := Tryz.prog) w 26 3 a vs.length cap 0 0 Tryz.underlying26
  go_enter Tryz.func5, Tryz.ntmps5
  go_wp2_with fail
  refine (bytesIntsX_any a cap vs.length x w hl).mono ?_
  rintro e w' ⟨⟨b, rfl⟩, rfl⟩
  cases b with
  | false =>
    go_wp2
    go_ret
    exact ⟨rfl, Below.refl _ _⟩
  | true =>
  by_cases h16 : 4096 < vs.length
  · go_wp2_with fail
    go_ret
    exact ⟨rfl, Below.refl _ _⟩
  have hl2 : vs.length ≤ 4096 := by omega
  clear h16
  go_upto_if 20 with fail
  go_cut [0] (fun v wx => IsRow w wx vs v)
  case first =>
    cases a with
    | none =>
      obtain rfl := HA.out rfl
      obtain rfl := HC.out rfl
      go_wp2_with fail
      go_meet
      exact ⟨none, 0, rfl, .inl rfl, Below.refl _ _⟩
    | some ad =>
      go_wp2_with (at_make; refine wpList_make_full _ rfl _ _ 26 rfl w.heap.size 3 i0 (.int .i64 0) 1 Tryz.underlying26 hi hz0 hz1 _ _ _ _ vs.length rfl rfl rfl rfl ?c1 ?c2 ?c3 ?_)
      case c1 => rw [hz2]; omega
      case c2 => unfold maxLen; omega
      case c3 => omega
      intro w1 hown hgrow
      have hb : Below w.heap.size w w1 := (Below.refl _ _).grown hgrow (Nat.le_refl _) (by intro k hk; cases hk)
      obtain ⟨cur, hg, hcur⟩ : ∃ cur : List Value, Hid (w1.heap[w.heap.size]? = some (.cells cur.toArray 3 (0, 0))) ∧ cur.length = vs.length := by
        rcases hown.2 with ⟨h, _⟩ | ⟨g, cap', cur, h, _, hg, _, _, hs, _⟩
        · cases h
        · simp only [Value.slice.injEq, Option.some.injEq, Addr.mk.injEq, and_true, true_and] at h
          obtain ⟨rfl, rfl⟩ := h
          exact ⟨cur.toList, by show _ = _; simpa using hg, by simpa using hs⟩
      have r1 := hrow.below (Nat.le_refl _) hb
      clear hown hgrow hq
      go_wp2_with (with_reducible refine wpList_copy_splice rfl _ _ 26 26 rfl 3 Tryz.underlying26 sizeInt (some ⟨w.heap.size, 0, none⟩) (some ad) vs.length vs.length vs.length cap rfl rfl w.heap.size 0 cur 3 hg.out (intV vs) ?_ ?_ ?_ ?_ w.heap.size w hb (Nat.le_refl _) ?_)
      · rw [intV_len]; exact (Nat.min_self _).symm
      · intro hpos
        rw [intV_len] at hpos
        obtain ⟨b, off, had, _, hc⟩ := r1.at (k := 0) (by rw [intV_len]; exact hpos)
        obtain rfl := Option.some.inj had
        have hcc : ∀ j v, (intV vs)[j]? = some v → w1.cell? ((⟨b, off, none⟩ : Addr).add j) = some v := fun j v hv => by
          rw [Addr.add_lit]
          exact hc j v hv
        first
          | exact hcc
          | exact ⟨rfl, _, rfl, hcc⟩
      · rw [intV_len, hcur]; omega
      · intro v hv
        obtain ⟨y, _, rfl⟩ := List.mem_map.1 hv
        rfl
      intro w2 hg2 hb2
      have hsp : splice cur 0 (intV vs) = intV vs := by
        unfold splice
        rw [List.take_zero, List.nil_append, Nat.zero_add, List.drop_of_length_le (by rw [intV_len, hcur]; exact Nat.le_refl _), List.append_nil]
      have r2 : Row w2 (some ⟨w.heap.size, 0, none⟩) (intV vs) := by
        have hg3 := hg2.out
        rw [hsp] at hg3
        refine .inr ⟨w.heap.size, 0, rfl, (Array.getElem?_eq_some_iff.1 hg3).1, fun j u hu => ?_⟩
        rw [Nat.zero_add, cell_of_row w2 w.heap.size j _ _ (0, 0) hg3]
        simpa using hu
      clear hg hg2 hsp r1 hb
      go_wp2_with fail
      go_meet
      exact ⟨_, _, rfl, r2, hb2⟩
  case rest =>
    obtain ⟨a1, c1, rfl, r1, hb1⟩ := hcut
    clear hq hrow
    go_wp2_with fail
    refine (zzIndicesOne_any a1 c1 vs x wc (by omega) r1).mono ?_
    rintro e w2 ⟨a2, c2, rfl, r2, hb2⟩
    have r1' := r1.below (Nat.le_refl _) hb2
    have hb12 := hb1.trans (hb2.mono hb1.size)
    clear r1 hb1 hb2
    have hbx : Below w2.heap.size w2 (w2.alloc (.cells #[.int .i64 x] 3)) := (Below.refl _ _).alloc (Nat.le_refl _) _
    have qx : Row (w2.alloc (.cells #[.int .i64 x] 3)) (some ⟨w2.heap.size, 0, none⟩) (intV [x]) :=
      .inr ⟨w2.heap.size, 0, rfl, by simp, fun j u hu => by
        have h := cells_new w2 (intV [x]) 3 j u hu
        rw [Addr.add_lit] at h
        exact h⟩
    have HZ : Hid (Calls Tryz.prog 16 _ _ _) := zzIndicesArr_any a1 (some ⟨w2.heap.size, 0, none⟩) c1 1 vs [x] (w2.alloc (.cells #[.int .i64 x] 3)) (by omega) (by simp) (r1'.below (Nat.le_refl _) hbx) qx
    clear qx
    go_wp2_with fail
    refine HZ.out.mono ?_
    rintro e w3 ⟨a3, c3, rfl, r3, hb3⟩
    have hb23 := hbx.trans (hb3.mono hbx.size)
    have r2' := r2.below (Nat.le_refl _) hb23
    have r1'' := r1'.below (Nat.le_refl _) hb23
    have hb13 := hb12.trans (hb23.mono hb12.size)
    clear HZ r2 r1' hb12 hb23 hbx hb3
    have hlo := occs_len vs [x]
    go_wp2_with fail
    refine (eqInts_any a2 a3 c2 c3 (occs vs [x]) (occs vs [x]) w3 (by omega) r2' r3 rfl).mono ?_
    rintro e w4 ⟨rfl, hd4⟩
    have r2'' := r2'.drawn hd4
    have r1q := r1''.drawn hd4
    have hb14 := hb13.trans (hd4.below _)
    clear r3 r2' r1'' hb13 hd4
    have hown0 : (w4.alloc (.cells #[] 3)).ownsRow w4.heap.size 3 1 (.slice (some ⟨w4.heap.size, 0, none⟩) 0 0) (intV (occK vs [x] 0)).length (intV (occK vs [x] 0)) :=
      World.ownsRow_lit w4 #[] 0 (Nat.le_refl _) (by unfold maxLen; omega) rfl
    have hb0 : Below w4.heap.size w4 (w4.alloc (.cells #[] 3)) := (Below.refl _ _).alloc (Nat.le_refl _) _
    go_wp2_with fail
    go_loopw [10, 11] (fun v i wr => ∃ k : Nat, k ≤ vs.length ∧ i = .int .i64 k ∧ wr.ownsRow w4.heap.size 3 1 v (intV (occK vs [x] k)).length (intV (occK vs [x] k)) ∧ Below w4.heap.size w4 wr)
      (fun _ i _ => vs.length - (intOf i).toNat)
    case atStart => exact ⟨0, by omega, rfl, hown0, hb0⟩
    case round =>
      clear hown0 hb0
      obtain ⟨k, hk, rfl, hown, hb⟩ := hrel
      have hsz : w4.heap.size ≤ wr.heap.size := hb.size
      have hlen := occK_len vs [x] k
      have hl3 := intV_len (occK vs [x] k)
      have HL : Hid ((intV (occK vs [x] k)).length ≤ 4097) := by show _ ≤ _; omega
      clear hlen hl3
      by_cases hlt : k < vs.length
      · obtain ⟨b, off, rfl, hbw, hc⟩ := r1q.at (k := k) (by rw [intV_len]; exact hlt)
        have hck : wr.cell? ⟨b, off + k, none⟩ = some (.int .i64 vs[k]) := (hb.cell (p := ⟨b, off + k, none⟩) hbw).trans (hc k _ (intV_get vs hlt))
        clear hc
        have hmd : (vs.drop k).take 1 = [vs[k]] := by rw [List.drop_eq_getElem_cons hlt]; rfl
        by_cases hx : vs[k] = x
        · have hm : matchAt vs [x] k = true := by unfold matchAt; rw [decide_eq_true_eq]; show (vs.drop k).take 1 = [x]; rw [hmd, hx]
          have HO : Hid (occK vs [x] (k + 1) = occK vs [x] k ++ [(k : Int)]) := occK_hit vs [x] k hm
          have hxe : (vs[k] == x) = true := by rw [hx]; exact beq_self_eq_true x
          clear hm hx hmd
          go_wp2_with (at_builtin; refine wpList_append_own _ rfl _ _ 26 rfl w4.heap.size 3 i0 (.int .i64 0) 1 8 Tryz.underlying26 hi hz0 hz1 hz2 rfl (by decide) _ _ _ rfl (hown.alloc _) ⟨wr.heap.size, 0, none⟩ 1 1 [.int .i64 k] rfl rfl (cells_new _ [.int .i64 k] _) (fun u hu => by simp at hu; subst hu; rfl) ?_ ?_ ?_ ?_)
          · have := HL.out; unfold maxLen; omega
          · have := HL.out; omega
          · simp; omega
          intro v3 w5 hown3 hgrow3 _
          have hb3 := below_own' (hb.alloc hsz _) (by simp; omega) (hown.alloc _) hgrow3
          have R : w5.ownsRow w4.heap.size 3 1 v3 (intV (occK vs [x] (k + 1))).length (intV (occK vs [x] (k + 1))) := by
            rw [HO.out]
            simpa [intV] using hown3
          clear hown hown3 hgrow3 hb
          go_wp2
          go_roundw
          case rel => exact ⟨k + 1, by omega, by go_num, R, hb3⟩
          case measure => simp [intOf]; omega
        · have hm : matchAt vs [x] k = false := by
            unfold matchAt
            rw [decide_eq_false_iff_not]
            show ¬ (vs.drop k).take 1 = [x]
            rw [hmd]
            intro e
            exact hx (List.cons.inj e).1
          have HO : Hid (occK vs [x] (k + 1) = occK vs [x] k) := occK_miss vs [x] k hm
          have R : wr.ownsRow w4.heap.size 3 1 u10 (intV (occK vs [x] (k + 1))).length (intV (occK vs [x] (k + 1))) := by rw [HO.out]; exact hown
          have hxe : (vs[k] == x) = false := beq_eq_false_iff_ne.2 hx
          clear hm hx hmd hown
          go_wp2
          go_roundw
          case rel => exact ⟨k + 1, by omega, by go_num, R, hb⟩
          case measure => simp [intOf]; omega
      · have hk' : k = vs.length := by omega
        subst hk'
        have hocc : occK vs [x] vs.length = occs vs [x] := by unfold occs; simp
        rw [hocc] at hown
        obtain ⟨a5, c5, rfl⟩ : ∃ a5 c5, u10 = .slice a5 (intV (occs vs [x])).length c5 := by
          rcases hown.2 with ⟨h, h0⟩ | ⟨g, cap', cur, h, _⟩
          · exact ⟨none, 0, by rw [h, h0]⟩
          · exact ⟨_, _, h⟩
        have r5 := row_any hown
        rw [intV_len]
        have r2z := r2''.below (Nat.le_refl _) hb
        have hbz := hb14.trans (hb.mono hb14.size)
        clear hown hb r2'' hocc HL r1q
        go_wp2_with fail
        refine (eqInts_any a2 a5 c2 c5 (occs vs [x]) (occs vs [x]) wr (by omega) r2z r5 rfl).mono ?_
        rintro e w6 ⟨rfl, hd6⟩
        have hbz6 := hbz.trans (hd6.below _)
        clear r2z r5 hd6 hbz
        go_wp2_with fail
        refine (zzIndicesNull_any x w6).mono ?_
        rintro e w7 ⟨rfl, rfl⟩
        go_wp2
        go_ret
        exact ⟨rfl, hbz6⟩
end Go.Proofs.YtnboibamehjdgaaGreatDoor
