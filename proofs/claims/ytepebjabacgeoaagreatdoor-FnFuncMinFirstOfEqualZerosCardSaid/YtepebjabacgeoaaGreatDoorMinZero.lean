/-
  min over floats takes the first of equal zeros: the law's walk (folder n001_91).
-/
import Derived.Test.YtepebjabacgeoaaGreatDoorBools
import Derived.Test.YtepebjabacgeoaaGreatDoorQuartLaw
import Derived.Deep.DeepCutAuto
namespace Go.Proofs.YtepebjabacgeoaaGreatDoor
open Go Go.RowKit

theorem bytesZ_any (a b : Option Addr) (cap n cap2 m : Nat) (w : World) (hl : n ≤ 140737488351232) (hl2 : m ≤ 140737488351232) :
    Calls Tryz.prog 18 #[.slice a n cap, .slice b m cap2] w fun e w' => SomeBool e ∧ w = w' := by
  go_enter Tryz.func18, Tryz.ntmps18
  go_wp2
  all_goals (go_ret; exact ⟨⟨_, rfl⟩, rfl⟩)

theorem Tryz.infoFlt : (Tryz.prog.info? 38).map (fun i => (i.zero, i.size, i.bytes)) = some (some (.float .f64 0), 1, 8) := by kernel_rfl

/-- The floats made of the values and the flags. -/
def fl (vs : List Int) (ns : List Bool) : List Nat := (List.range vs.length).map fun i => fbits (vs.getD i 0) (ns.getD i false)
theorem fl_len (vs : List Int) (ns : List Bool) : (fl vs ns).length = vs.length := by simp [fl]
theorem fl_get (vs : List Int) (ns : List Bool) {k : Nat} (h : k < vs.length) : (fltV (fl vs ns))[k]? = some (.float .f64 (fbits (vs.getD k 0) (ns.getD k false))) := by
  simp [fltV, fl, h]
theorem fl_getD (vs : List Int) (ns : List Bool) {k : Nat} (h : k < vs.length) : (fl vs ns).getD k 0 = fbits (vs.getD k 0) (ns.getD k false) := by
  simp [fl, List.getD, h]

set_option maxRecDepth 100000 in
set_option maxHeartbeats 1600000 in
theorem law_FnFuncMinFirstOfEqualZeros (a : Option Addr) (cap : Nat) (vs : List Int) (b : Option Addr) (cap2 : Nat) (ns : List Bool) (w : World) (hl : vs.length ≤ 140737488351232) (ha : a = none → vs = []) (hcap : a = none → cap = 0) (hrow : Row w a (intV vs))
    (hlb : ns.length ≤ 140737488351232) (hab : b = none → ns = []) (hcapb : b = none → cap2 = 0) (hrowb : Row w b (boolV ns)) :
    Calls Tryz.prog 4 #[.slice a vs.length cap, .slice b ns.length cap2] w (Holds w) := by
  obtain ⟨i0, hi, hz0, hz1, hz2⟩ := info_parts Tryz.infoFlt
  have HA : Hid (a = none → vs = []) := ha
  have HC : Hid (a = none → cap = 0) := hcap
  have HA2 : Hid (b = none → ns = []) := hab
  have HC2 : Hid (b = none → cap2 = 0) := hcapb
  clear ha hcap hab hcapb
  have hst := fun (w : World) (p : Addr) (x : Nat) (m : Mode) => run_store Tryz.prog w p (.float .f64 x) m rfl
  go_enter Tryz.func4, Tryz.ntmps4
  go_wp2_with fail
  refine (bytesZ_any a b cap vs.length cap2 ns.length w hl hlb).mono ?_
  rintro e w' ⟨⟨g, rfl⟩, rfl⟩
  cases g with
  | false =>
    go_wp2
    go_ret
    exact ⟨rfl, Below.refl _ _⟩
  | true =>
  by_cases h16 : 65536 < vs.length
  · go_wp2_with fail
    go_ret
    exact ⟨rfl, Below.refl _ _⟩
  by_cases h17 : 65536 < ns.length
  · go_wp2_with fail
    go_ret
    exact ⟨rfl, Below.refl _ _⟩
  have hl2 : vs.length ≤ 65536 := by omega
  have hlb2 : ns.length ≤ 65536 := by omega
  clear h16 h17
  by_cases h0 : vs.length = 0
  · go_wp2_with fail
    go_ret
    exact ⟨rfl, Below.refl _ _⟩
  have hne0 : ((vs.length : Int) == 0) = false := beq_eq_false_iff_ne.2 (by omega)
  by_cases hlen0 : ¬ ns.length = vs.length
  · have hne : ((ns.length : Int) != (vs.length : Int)) = true := by simp; omega
    go_wp2_with fail
    go_ret
    exact ⟨rfl, Below.refl _ _⟩
  have hne : ((ns.length : Int) != (vs.length : Int)) = false := by simp; omega
  have HLEN : Hid (ns.length = vs.length) := by show _ = _; omega
  have hpos : 0 < vs.length := by omega
  clear hlen0 h0
  go_wp2_with fail
  go_loopw [6] (fun v wr => ∃ k : Nat, k ≤ vs.length ∧ v = .int .i64 k ∧ Hid (∀ i, i < k → -4503599627370496 ≤ vs.getD i 0 ∧ vs.getD i 0 ≤ 4503599627370496) ∧ wr = w) (fun v _ => vs.length - (intOf v).toNat)
  case atStart => exact ⟨0, by omega, rfl, (by show ∀ i, i < 0 → _; intro i hi; omega), rfl⟩
  case round =>
    obtain ⟨k, hk, rfl, hb, hw⟩ := hrel
    have hw' : w = wr := hw.symm
    clear hw
    subst hw'
    by_cases hlt : k < vs.length
    · obtain ⟨b1, o1, rfl, _, hc1⟩ := hrow.at (k := k) (by rw [intV_len]; exact hlt)
      have hck : w.cell? ⟨b1, o1 + k, none⟩ = some (.int .i64 vs[k]) := hc1 k _ (intV_get vs hlt)
      have hki : (k : Int) < (vs.length : Int) := by omega
      have e1 := getD_int hlt
      clear hc1
      by_cases hx1 : vs[k] < -4503599627370496
      · clear e1
        go_wp2_with fail
        go_ret
        exact ⟨rfl, Below.refl _ _⟩
      by_cases hx2 : 4503599627370496 < vs[k]
      · clear e1
        go_wp2_with fail
        go_ret
        exact ⟨rfl, Below.refl _ _⟩
      have hb' : Hid (∀ i, i < k + 1 → -4503599627370496 ≤ vs.getD i 0 ∧ vs.getD i 0 ≤ 4503599627370496) := by
        show ∀ i, i < k + 1 → _
        intro i hi
        rcases (show i < k ∨ i = k by omega) with h | rfl
        · exact hb.out i h
        · rw [e1]; omega
      clear e1
      go_wp2_with fail
      go_roundw
      case rel => exact ⟨k + 1, by omega, by go_num, hb', by first | rfl | trivial⟩
      case measure => simp [intOf]; omega
    · obtain rfl : k = vs.length := by omega
      have HB : Hid (∀ i, i < vs.length → Fits (vs.getD i 0)) := by
        show ∀ i, _ → _
        intro i hi
        have := hb.out i hi
        unfold Fits
        omega
      clear hb
      go_wp2_with fail
      refine (clone_any a cap vs w (by omega) HA.out HC.out hrow).mono ?_
      rintro e w1 ⟨_, rfl, a1, c1, rfl, r1, hb1⟩
      have hrowb1 := hrowb.below (Nat.le_refl _) hb1
      clear hrow hrowb
      go_wp2_with fail
      refine (cloneB_any b cap2 ns w1 (by omega) HA2.out HC2.out hrowb1).mono ?_
      rintro e w2 ⟨_, rfl, a2, c2, rfl, r2, hb2⟩
      have r1' := r1.below (Nat.le_refl _) hb2
      have hb12 := hb1.trans (hb2.mono hb1.size)
      clear hrowb1 r1 hb1 hb2
      go_wp2_with (at_make; refine wpList_make_full _ rfl _ _ 37 rfl w2.heap.size 38 i0 (.float .f64 0) 1 Tryz.underlying37 hi hz0 hz1 _ _ _ _ vs.length rfl rfl rfl rfl ?c1 ?c2 ?c3 ?_)
      case c1 => rw [hz2]; omega
      case c2 => unfold maxLen; omega
      case c3 => omega
      intro w3 hown hgrow
      have hb3 : Below w2.heap.size w2 w3 := (Below.refl _ _).grown hgrow (Nat.le_refl _) (by intro k hk; cases hk)
      have hown' : w3.ownsRow w2.heap.size 38 1 (.slice (some ⟨w2.heap.size, 0, none⟩) vs.length vs.length) vs.length (filled (fltV (fl vs ns)) (.float .f64 0) 0) := by
        rw [filled_zero, fltV_len, fl_len]
        simpa [Value.cells, toList_madeCells_one] using hown
      clear hown hgrow
      go_wp2_with fail
      go_loopw [8] (fun v wr => ∃ k : Nat, k ≤ vs.length ∧ v = .int .i64 k ∧ wr.ownsRow w2.heap.size 38 1 (.slice (some ⟨w2.heap.size, 0, none⟩) vs.length vs.length) vs.length (filled (fltV (fl vs ns)) (.float .f64 0) k) ∧ Below w2.heap.size w2 wr)
        (fun v _ => vs.length - (intOf v).toNat)
      case atStart => exact ⟨0, by omega, rfl, hown', hb3⟩
      case round =>
        clear hown' hb3
        obtain ⟨k, hk2, rfl, hown, hb⟩ := hrel
        by_cases hlt2 : k < vs.length
        · obtain ⟨b1, o1, rfl, hbw1, hc1⟩ := r1'.at (k := k) (by rw [intV_len]; exact hlt2)
          obtain ⟨b2, o2, rfl, hbw2, hc2⟩ := r2.at (k := k) (by rw [boolV_len]; have := HLEN.out; omega)
          have hkn : k < ns.length := by have := HLEN.out; omega
          have hck1 : wr.cell? ⟨b1, o1 + k, none⟩ = some (.int .i64 vs[k]) := (hb.cell (p := ⟨b1, o1 + k, none⟩) hbw1).trans (hc1 k _ (intV_get vs hlt2))
          have hck2 : wr.cell? ⟨b2, o2 + k, none⟩ = some (.bool ns[k]) := (hb.cell (p := ⟨b2, o2 + k, none⟩) hbw2).trans (hc2 k _ (boolV_get ns hkn))
          have hc3 : wr.cell? ⟨w2.heap.size, k, none⟩ = some (.float .f64 0) := by rw [hown.cellAt k (by omega)]; exact filled_at _ _ _ (by rw [fltV_len, fl_len]; exact hlt2)
          have hf3 := hown.frozenAt k
          obtain ⟨R1, R2⟩ := fill_step hown hb (fl_get vs ns hlt2)
          have e1 := getD_int hlt2
          have e2 : ns.getD k false = ns[k] := by simp [List.getD, hkn]
          rw [e1, e2] at R1 R2
          have hki : (k : Int) < (vs.length : Int) := by omega
          have hki2 : (k : Int) < (ns.length : Int) := by omega
          clear hc1 hc2 hown hb e1 e2
          generalize vs[k] = v at hck1 R1 R2
          generalize ns[k] = n at hck2 R1 R2
          by_cases hv : v = 0
          · subst hv
            cases n with
            | true =>
              have hneg := fun (w : World) => (show (Op.unary .neg (.float .f64 (floatOfInt .f64 0))).run Tryz.prog w = .ok (.float .f64 (Ieee.double.word true 0)) w by kernel_rfl)
              have e3 : fbits 0 true = Ieee.double.word true 0 := by unfold fbits; rw [if_pos ⟨rfl, rfl⟩]
              rw [e3] at R1 R2
              go_wp2
              go_roundw
              case rel => exact ⟨k + 1, by omega, by go_num, R1, R2⟩
              case measure => simp [intOf]; omega
            | false =>
              have e3 : fbits 0 false = floatOfInt .f64 0 := by unfold fbits; rw [if_neg (by simp)]; rfl
              rw [e3] at R1 R2
              go_wp2
              go_roundw
              case rel => exact ⟨k + 1, by omega, by go_num, R1, R2⟩
              case measure => simp [intOf]; omega
          · have hve : (v == 0) = false := beq_eq_false_iff_ne.2 hv
            have e3 : fbits v n = floatOfInt .f64 v := by unfold fbits; rw [if_neg (by simp [hv])]; rfl
            rw [e3] at R1 R2
            go_wp2
            go_roundw
            case rel => exact ⟨k + 1, by omega, by go_num, R1, R2⟩
            case measure => simp [intOf]; omega
        · obtain rfl : k = vs.length := by omega
          have e := filled_all (fltV (fl vs ns)) (.float .f64 0)
          rw [fltV_len, fl_len] at e
          rw [e] at hown
          have hr : Row wr (some ⟨w2.heap.size, 0, none⟩) (fltV (fl vs ns)) := made_row (by rw [fltV_len, fl_len]) hown
          have r1z := r1'.below (Nat.le_refl _) hb
          have r2z := r2.below (Nat.le_refl _) hb
          have hbz := hb12.trans (hb.mono hb12.size)
          have hFL := floats_any (some ⟨w2.heap.size, 0, none⟩) vs.length (fl vs ns) wr (by rw [fl_len]; omega) hr
          rw [fl_len] at hFL
          have HFL : Hid (Calls Tryz.prog 21 _ wr _) := hFL
          have mk := fun (x : Value) (w : World) => run_makeInterface (P := Tryz.prog) w 26 x (by kernel_rfl)
          clear hown hb e hr hFL r1' r2 hb12
          go_wp2_with fail
          refine HFL.out.mono ?_
          rintro e w4 ⟨a4, c4, n4, hn4, rfl, hown4, hb4, _⟩
          have q4 := made_row hn4 hown4
          rw [anyF_len, fl_len] at hn4
          subst hn4
          have r1y := r1z.below (Nat.le_refl _) hb4
          have r2y := r2z.below (Nat.le_refl _) hb4
          have hby := hbz.trans (hb4.mono hbz.size)
          have hMF := zzMinF_any a4 c4 (fl vs ns) vs w4 (by rw [fl_len]; omega) (by rw [fl_len]; exact hpos) (by intro i hi; rw [fl_len] at hi; rw [fl_getD vs ns hi]; exact fbits_rep _ _ (HB.out i hi)) q4
          rw [fl_len] at hMF
          have HMF : Hid (Calls Tryz.prog 12 _ w4 _) := hMF
          clear HFL hown4 hb4 q4 hMF r1z r2z hbz
          go_wp2_with fail
          refine HMF.out.mono ?_
          rintro e w5 ⟨j, hj, rfl, hd⟩
          have hjl := hj.1
          rw [fl_getD vs ns hjl]
          have r1x := r1y.drawn hd
          have r2x := r2y.drawn hd
          have hbx := hby.trans (hd.below _)
          clear HMF r1y r2y hby hd
          obtain ⟨X, hX⟩ : ∃ X, X = fbits (vs.getD j 0) (ns.getD j false) := ⟨_, rfl⟩
          have hXr : Rep X (vs.getD j 0) := by rw [hX]; exact fbits_rep _ _ (HB.out j hjl)
          have HX : Hid (X = fbits (vs.getD j 0) (ns.getD j false)) := hX
          rw [← hX]
          clear hX
          go_wp2_with fail
          refine (zzFloatOf_any X w5).mono ?_
          rintro e w6 ⟨rfl, rfl⟩
          have hMO := minOf_any a1 c1 vs (by omega) vs.length 0 vs.length w5 (by omega) hpos (Nat.le_refl _) r1x
          have HMO : Hid (Calls Tryz.prog 15 _ w5 _) := hMO
          clear hMO
          go_wp2_with fail
          refine HMO.out.mono ?_
          rintro e w6 ⟨m, hm, rfl, rfl⟩
          have hpart : part vs 0 vs.length = vs := by unfold part; rw [List.take_length, List.drop_zero]
          rw [hpart] at hm
          have hmj : vs.getD j 0 = m := by
            obtain ⟨i, hi, hie⟩ := List.getElem_of_mem hm.1
            have h1 := (hj.2 i hi).1
            rw [getD_int hi, hie] at h1
            have h2 := hm.2 (vs.getD j 0) (by rw [getD_int hjl]; exact List.getElem_mem hjl)
            omega
          have hfm : Fits m := by rw [← hmj]; exact HB.out j hjl
          rw [hmj] at hXr HX
          have ho := rep_order hXr (rep_F m hfm)
          rw [cmp_eq, ← F_ofInt] at ho
          have HJ : Hid (First vs vs.length j) := hj
          have HMJ : Hid (vs.getD j 0 = m) := hmj
          clear HMO hm hpart hj hmj hXr
          by_cases hm0 : ¬ m = 0
          · have hmne : (m != 0) = true := by simp [hm0]
            go_wp2_with fail
            go_ret
            exact ⟨rfl, hbx⟩
          · obtain rfl : m = 0 := by omega
            clear hm0
            go_wp2_with fail
            go_loopw [13] (fun v wx => ∃ k : Nat, k ≤ vs.length ∧ v = .int .i64 k ∧ Hid (∀ i, i < k → vs.getD i 0 ≠ 0) ∧ wx = w5) (fun v _ => vs.length - (intOf v).toNat)
            case atStart => exact ⟨0, by omega, rfl, (by show ∀ i, i < 0 → _; intro i hi; omega), rfl⟩
            case round =>
              obtain ⟨k, hk3, rfl, hn, hw5⟩ := hrel
              have hw5' : w5 = _ := hw5.symm
              subst hw5'
              by_cases hlt3 : k < vs.length
              · obtain ⟨b1, o1, rfl, _, hc1⟩ := r1x.at (k := k) (by rw [intV_len]; exact hlt3)
                have hck : w5.cell? ⟨b1, o1 + k, none⟩ = some (.int .i64 vs[k]) := hc1 k _ (intV_get vs hlt3)
                have hki : (k : Int) < (vs.length : Int) := by omega
                have e1 := getD_int hlt3
                clear hc1
                by_cases hx : vs[k] = 0
                · have hkj : k = j := by
                    have hf : First vs vs.length k := by
                      have hall := HJ.out.2
                      rw [HMJ.out] at hall
                      refine ⟨hlt3, fun i hi => ?_⟩
                      rw [e1, hx]
                      refine ⟨(hall i hi).1, fun h => ?_⟩
                      have h1 := (hall i hi).1
                      have h2 := hn.out i h
                      omega
                    exact hf.uniq HJ.out
                  have hkn : k < ns.length := by have := HLEN.out; omega
                  have hki2 : (k : Int) < (ns.length : Int) := by omega
                  obtain ⟨b2, o2, rfl, _, hc2⟩ := r2x.at (k := k) (by rw [boolV_len]; exact hkn)
                  have hck2 : w5.cell? ⟨b2, o2 + k, none⟩ = some (.bool ns[k]) := hc2 k _ (boolV_get ns hkn)
                  have e2 : ns.getD k false = ns[k] := by simp [List.getD, hkn]
                  have hX := HX.out
                  rw [← hkj, e2] at hX
                  rw [hx] at hck
                  clear e1 e2 hc2 hx hkj HJ HMJ HX hn
                  generalize ns[k] = n at hck2 hX
                  cases n with
                  | true =>
                    have e3 : fbits 0 true = Ieee.double.word true 0 := by unfold fbits; rw [if_pos ⟨rfl, rfl⟩]
                    rw [e3] at hX
                    have hq := fun (w : World) => run_float_arith (P := Tryz.prog) w .quo 38 .f64 4607182418800017408 X 18442240474082181120 (by rw [hX]; decide +kernel)
                    have hlss : (FloatKind.format .f64).order 18442240474082181120 0 = some .lt := by decide +kernel
                    clear e3 hX
                    go_wp2_with fail
                    go_ret
                    exact ⟨rfl, by first | exact hbx | exact hbx.trans (Drawn.below ⟨_, rfl⟩ _)⟩
                  | false =>
                    have e3 : fbits 0 false = F 0 0 := by unfold fbits; rw [if_neg (by simp)]
                    rw [e3] at hX
                    have hq := fun (w : World) => run_float_arith (P := Tryz.prog) w .quo 38 .f64 4607182418800017408 X 9218868437227405312 (by rw [hX]; decide +kernel)
                    have hlss : (FloatKind.format .f64).order 9218868437227405312 0 = some .gt := by decide +kernel
                    clear e3 hX
                    go_wp2_with fail
                    go_ret
                    exact ⟨rfl, by first | exact hbx | exact hbx.trans (Drawn.below ⟨_, rfl⟩ _)⟩
                · have hxe : (vs[k] != 0) = true := by simp [hx]
                  have hn' : Hid (∀ i, i < k + 1 → vs.getD i 0 ≠ 0) := by
                    show ∀ i, i < k + 1 → _
                    intro i hi
                    rcases (show i < k ∨ i = k by omega) with h | rfl
                    · exact hn.out i h
                    · rw [e1]; exact hx
                  clear e1 hx
                  go_wp2_with fail
                  go_roundw
                  case rel => exact ⟨k + 1, by omega, by go_num, hn', by first | rfl | trivial⟩
                  case measure => simp [intOf]; omega
              · exact absurd HMJ.out (hn.out j (by omega))
end Go.Proofs.YtepebjabacgeoaaGreatDoor
