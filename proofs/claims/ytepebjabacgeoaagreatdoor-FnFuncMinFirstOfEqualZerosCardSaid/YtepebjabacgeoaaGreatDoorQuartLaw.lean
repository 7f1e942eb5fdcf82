/-
  range over quarters counts exactly: the iterator's Next at floats; the law's walk (folder n001_91).
-/
import Derived.Test.YtepebjabacgeoaaGreatDoorQuart
namespace Go.Proofs.YtepebjabacgeoaaGreatDoor
open Go Go.RowKit

theorem zzFloatOf_any (x : Nat) (w : World) : Calls Tryz.prog 20 #[.iface 38 (.float .f64 x)] w fun e w' => e = .returned (.tuple #[.float .f64 x, .bool true]) ∧ w = w' := by
  have h := fun (v : Value) (w : World) => q_f_flt v w
  go_enter Tryz.func20, Tryz.ntmps20
  go_wp2
  go_ret2
  exact ⟨rfl, rfl⟩

set_option maxRecDepth 100000 in
set_option maxHeartbeats 1600000 in
theorem nextEndQ_any (B : Nat) (a s p q y : Int) (w : World) (h : Iter w B (.iface 38 (.float .f64 (F a (-2)))) (.iface 38 (.float .f64 (F y (-2)))) (.iface 38 (.float .f64 (F s (-2)))))
    (r1 : -1 ≤ p ∧ p ≤ 1) (r2 : -1 ≤ q ∧ q ≤ 1)
    (C1 : ∀ w : World, Calls Tryz.prog 27 #[.iface 38 (.float .f64 (F s (-2))), .iface 3 (.int .i64 0)] w fun e w' => e = .returned (.int .i64 p) ∧ w = w')
    (C2 : ∀ w : World, Calls Tryz.prog 27 #[.iface 38 (.float .f64 (F a (-2))), .iface 38 (.float .f64 (F y (-2)))] w fun e w' => e = .returned (.int .i64 q) ∧ w = w')
    (hend : 0 ≤ p * q) :
    Calls Tryz.prog 33 #[.pointer (some ⟨B, 0, none⟩)] w fun e w' => e = .returned (.tuple #[.nilIface, .bool false]) ∧ Drawn w w' := by
  have mk := fun (x : Value) (w : World) => run_makeInterface (P := Tryz.prog) w 3 x (by kernel_rfl)
  obtain ⟨c0, c1, c2, f0⟩ := h
  have hm : -1 ≤ p * q ∧ p * q ≤ 1 := by
    rcases (show p = -1 ∨ p = 0 ∨ p = 1 by omega) with rfl | rfl | rfl <;> omega
  generalize F y (-2) = Y at *
  generalize F a (-2) = A at *
  generalize F s (-2) = S at *
  go_enter Tryz.func33, Tryz.ntmps33
  go_wp2_with fail
  go_quiet ((go_at_call 27; first | exact Calls.quiet_of_same ((C1 _).mono fun _ _ h => ⟨h.1, h.2.symm⟩) | exact Calls.quiet_of_same ((C2 _).mono fun _ _ h => ⟨h.1, h.2.symm⟩)))
  go_wp2
  go_ret2
  exact ⟨rfl, ⟨_, rfl⟩⟩

set_option maxRecDepth 100000 in
set_option maxHeartbeats 1600000 in
theorem nextGoQ_any (B : Nat) (a s p q y : Int) (w : World) (h : Iter w B (.iface 38 (.float .f64 (F a (-2)))) (.iface 38 (.float .f64 (F y (-2)))) (.iface 38 (.float .f64 (F s (-2)))))
    (r1 : -1 ≤ p ∧ p ≤ 1) (r2 : -1 ≤ q ∧ q ≤ 1)
    (C1 : ∀ w : World, Calls Tryz.prog 27 #[.iface 38 (.float .f64 (F s (-2))), .iface 3 (.int .i64 0)] w fun e w' => e = .returned (.int .i64 p) ∧ w = w')
    (C2 : ∀ w : World, Calls Tryz.prog 27 #[.iface 38 (.float .f64 (F a (-2))), .iface 38 (.float .f64 (F y (-2)))] w fun e w' => e = .returned (.int .i64 q) ∧ w = w')
    (hgo : p * q < 0) (ha : Fits a) (hs : Fits s) (has : Fits (a + s)) :
    Calls Tryz.prog 33 #[.pointer (some ⟨B, 0, none⟩)] w fun e w' => e = .returned (.tuple #[.iface 38 (.float .f64 (F a (-2))), .bool true]) ∧ ∃ n, w' = (w.drewN n).setCell ⟨B, 0, none⟩ (.iface 38 (.float .f64 (F (a + s) (-2)))) := by
  have mk := fun (x : Value) (w : World) => run_makeInterface (P := Tryz.prog) w 3 x (by kernel_rfl)
  obtain ⟨c0, c1, c2, f0⟩ := h
  have hm : -1 ≤ p * q ∧ p * q ≤ 1 := by
    rcases (show p = -1 ∨ p = 0 ∨ p = 1 by omega) with rfl | rfl | rfl <;> omega
  have HO := fun (w : World) => opAddF_any a s (-2) ha hs has (by omega) (by omega) w
  generalize F y (-2) = Y at *
  generalize F a (-2) = A at *
  generalize F s (-2) = S at *
  generalize F (a + s) (-2) = Z at *
  go_enter Tryz.func33, Tryz.ntmps33
  go_wp2_with fail
  go_quiet ((go_at_call 27; first | exact Calls.quiet_of_same ((C1 _).mono fun _ _ h => ⟨h.1, h.2.symm⟩) | exact Calls.quiet_of_same ((C2 _).mono fun _ _ h => ⟨h.1, h.2.symm⟩)))
  go_wp2_with (go_at_call 50; refine (HO _).mono ?_; rintro e w' ⟨rfl, rfl⟩)
  go_ret2
  exact ⟨rfl, _, rfl⟩

set_option maxRecDepth 100000 in
set_option maxHeartbeats 1600000 in
theorem law_FnRangeNextQuartersExact (a b s : Int) (w : World) :
    Calls Tryz.prog 8 #[.int .i64 a, .int .i64 b, .int .i64 s] w (Holds w) := by
  have nn := fun (w : World) => nil_neq_nil w
  go_enter Tryz.func8, Tryz.ntmps8
  go_wp2_with fail
  refine (inRange_any a b s w).mono ?_
  rintro e w' ⟨⟨c, rfl, hc⟩, rfl⟩
  cases c with
  | false =>
    go_wp2
    go_ret
    exact ⟨rfl, Below.refl _ _⟩
  | true =>
  have hin := hc rfl
  clear hc
  go_wp2_with fail
  refine (rangeCount_any a b s w hin).mono ?_
  rintro e w' ⟨n, rfl, hrc, rfl⟩
  by_cases hn : 65536 < n
  · have hn' : (65536 : Int) < (n : Int) := by omega
    go_wp2
    go_ret
    exact ⟨rfl, Below.refl _ _⟩
  have hn' : ¬ (65536 : Int) < (n : Int) := by omega
  have hin' := hin
  obtain ⟨_, _, _, _, _, _⟩ := hin'
  have hfa : Fits a := by unfold Fits; omega
  have hfb : Fits b := by unfold Fits; omega
  have hfs : Fits s := by unfold Fits; omega
  have d1 := fun (w : World) => run_float_arith (P := Tryz.prog) w .quo 38 .f64 (floatOfInt .f64 a) 4616189618054758400 _ (F_div4 a hfa)
  have d2 := fun (w : World) => run_float_arith (P := Tryz.prog) w .quo 38 .f64 (floatOfInt .f64 b) 4616189618054758400 _ (F_div4 b hfb)
  have d3 := fun (w : World) => run_float_arith (P := Tryz.prog) w .quo 38 .f64 (floatOfInt .f64 s) 4616189618054758400 _ (F_div4 s hfs)
  have hb5 : Below w.heap.size w (w.alloc (.cells (fltV [F a (-2), F b (-2), F s (-2)]).toArray 38)) := (Below.refl _ _).alloc (Nat.le_refl _) _
  have HM := floats_any (some ⟨w.heap.size, 0, none⟩) 3 [F a (-2), F b (-2), F s (-2)] (w.alloc (.cells (fltV [F a (-2), F b (-2), F s (-2)]).toArray 38)) (by simp) (row3_new w _ _)
  have HM' : Hid (Calls Tryz.prog 21 _ _ _) := HM
  have HB5 : Hid (Below w.heap.size w _) := hb5
  have HIN : Hid (InR a b s) := hin
  have HF : Hid (Fits a ∧ Fits b ∧ Fits s) := ⟨hfa, hfb, hfs⟩
  clear HM hb5 hin hfa hfb hfs
  go_wp2_with fail
  refine HM'.out.mono ?_
  rintro e w5 ⟨a5, c5, n5, hn5, rfl, hown5, hb5, _⟩
  obtain rfl : n5 = 3 := hn5
  have q5 := made_row (by rfl) hown5
  have hbw5 : Below w.heap.size w w5 := HB5.out.trans (hb5.mono HB5.out.size)
  have hFR := zzFuncRange_any a5 c5 _ _ _ w5 q5 (.inr ⟨_, rfl⟩) (.inr ⟨_, rfl⟩) (.inr ⟨_, rfl⟩)
  have HFR : Hid (Calls Tryz.prog 32 _ w5 _) := hFR
  clear HM' hown5 hb5 HB5 q5 hFR d1 d2 d3
  go_wp2_with fail
  refine HFR.out.mono ?_
  rintro e w6 ⟨B, rfl, hB, hb6, hI⟩
  have hbw6 := hbw5.trans (hb6.mono hbw5.size)
  have hBw : w.heap.size ≤ B := Nat.le_trans hbw5.size hB
  clear HFR hb6 hbw5 hB
  go_wp2_with fail
  refine (zzRangeOf_any _ w6).mono ?_
  rintro e w7 ⟨rfl, rfl⟩
  go_wp2_with fail
  go_loopw [13] (fun v wr => ∃ k : Nat, k ≤ n ∧ v = .int .i64 k ∧ Hid (Iter wr B (.iface 38 (.float .f64 (F (a + k * s) (-2)))) (.iface 38 (.float .f64 (F b (-2)))) (.iface 38 (.float .f64 (F s (-2))))) ∧ Below w.heap.size w wr)
    (fun v _ => n - (intOf v).toNat)
  case atStart => exact ⟨0, by omega, rfl, by show Iter _ _ _ _ _; simpa using hI, hbw6⟩
  case round =>
    clear hI hbw6
    obtain ⟨k, hk, rfl, hI, hb⟩ := hrel
    have hnear := hrc.near k hk
    by_cases hlt : k < n
    · have hki : (k : Int) < (n : Int) := by omega
      have hN := nextGoQ_any B (a + k * s) s _ _ b wr hI.out (cmpI_range s 0) (cmpI_range _ _) (fun w => compareF0_any s (-2) HF.out.2.2 (by omega) (by omega) w) (fun w => compareFF_any (a + k * s) b (-2) (by unfold Fits; omega) HF.out.2.1 (by omega) (by omega) w) (hrc.go k hlt) (by unfold Fits; omega) HF.out.2.2 (by unfold Fits; omega)
      have HN : Hid (Calls Tryz.prog 33 _ wr _) := hN
      clear hN
      go_wp2_with fail
      refine HN.out.mono ?_
      rintro e w8 ⟨rfl, m, rfl⟩
      have hI2 := hI.out.next m (.iface 38 (.float .f64 (F (a + k * s + s) (-2))))
      have hb2 : Below w.heap.size w ((wr.drewN m).setCell ⟨B, 0, none⟩ (.iface 38 (.float .f64 (F (a + k * s + s) (-2))))) := (hb.trans (Drawn.below ⟨m, rfl⟩ _)).setCell hBw _
      rw [show a + k * s + s = a + ((k + 1 : Nat) : Int) * s by push_cast; rw [Int.add_mul, Int.one_mul]; omega] at hI2 hb2
      have HI2 : Hid (Iter _ B _ _ _) := hI2
      rw [show a + k * s + s = a + ((k + 1 : Nat) : Int) * s by push_cast; rw [Int.add_mul, Int.one_mul]; omega]
      generalize (wr.drewN m).setCell ⟨B, 0, none⟩ (.iface 38 (.float .f64 (F (a + ((k + 1 : Nat) : Int) * s) (-2)))) = w8 at HI2 hb2
      clear hI HN hI2
      go_wp2_with fail
      have hfk : Fits (a + k * s) := by unfold Fits; omega
      have dk := fun (w : World) => run_float_arith (P := Tryz.prog) w .quo 38 .f64 (floatOfInt .f64 (a + k * s)) 4616189618054758400 _ (F_div4 (a + k * s) hfk)
      have ho := ord_any (a + k * s) (a + k * s) (-2) hfk hfk (by omega) (by omega)
      rw [cmp_eq] at ho
      refine (zzFloatOf_any (F (a + k * s) (-2)) w8).mono ?_
      rintro e w9 ⟨rfl, rfl⟩
      go_wp2_with fail
      go_roundw
      case rel => exact ⟨k + 1, by omega, by go_num, HI2, hb2⟩
      case measure => simp [intOf]; omega
    · have hki : ¬ (k : Int) < (n : Int) := by omega
      obtain rfl : k = n := by omega
      have hstop := hrc.stop
      have hE := fun (wz : World) (h : Iter wz B (.iface 38 (.float .f64 (F (a + k * s) (-2)))) (.iface 38 (.float .f64 (F b (-2)))) (.iface 38 (.float .f64 (F s (-2))))) => nextEndQ_any B (a + k * s) s _ _ b wz h (cmpI_range s 0) (cmpI_range _ _) (fun w => compareF0_any s (-2) HF.out.2.2 (by omega) (by omega) w) (fun w => compareFF_any (a + k * s) b (-2) (by unfold Fits; omega) HF.out.2.1 (by omega) (by omega) w) hstop
      have HE : Hid (∀ wz : World, Iter wz B (.iface 38 (.float .f64 (F (a + k * s) (-2)))) (.iface 38 (.float .f64 (F b (-2)))) (.iface 38 (.float .f64 (F s (-2)))) → _) := hE
      clear hE hstop
      go_wp2_with fail
      go_loopw [18] (fun v wx => ∃ j : Nat, j ≤ 2 ∧ v = .int .i64 j ∧ Drawn wr wx) (fun v _ => 2 - (intOf v).toNat)
      case atStart => exact ⟨0, by omega, rfl, Drawn.refl wr⟩
      case round =>
        obtain ⟨j, hj, rfl, hd⟩ := hrel
        by_cases hjl : j < 2
        · have hji : (j : Int) < 2 := by omega
          have hI3 := HE.out wr (hI.out.drawn hd)
          have HI3 : Hid (Calls Tryz.prog 33 _ wr _) := hI3
          clear hI3
          go_wp2_with fail
          refine HI3.out.mono ?_
          rintro e w9 ⟨rfl, hd9⟩
          go_wp2_with fail
          go_roundw
          case rel => exact ⟨j + 1, by omega, by go_num, hd.trans hd9⟩
          case measure => simp [intOf]; omega
        · have hji : ¬ (j : Int) < 2 := by omega
          go_wp2
          go_ret
          exact ⟨rfl, hb.trans (hd.below _)⟩
end Go.Proofs.YtepebjabacgeoaaGreatDoor
