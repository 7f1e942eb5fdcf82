/-
  range over ints with an end that is a float: Next, and the law's walk (folder n001_91).
-/
import Derived.Test.YtepebjabacgeoaaGreatDoorRangeLaw
import Derived.Test.YtepebjabacgeoaaGreatDoorCmpF
namespace Go.Proofs.YtepebjabacgeoaaGreatDoor
open Go Go.RowKit

set_option maxRecDepth 100000 in
set_option maxHeartbeats 1600000 in
theorem nextEndE_any (B : Nat) (a s p q y : Int) (w : World) (h : Iter w B (.iface 3 (.int .i64 a)) (.iface 38 (.float .f64 (F y (-1)))) (.iface 3 (.int .i64 s)))
    (r1 : -1 ≤ p ∧ p ≤ 1) (r2 : -1 ≤ q ∧ q ≤ 1)
    (C1 : ∀ w : World, Calls Tryz.prog 27 #[.iface 3 (.int .i64 s), .iface 3 (.int .i64 0)] w fun e w' => e = .returned (.int .i64 p) ∧ w = w')
    (C2 : ∀ w : World, Calls Tryz.prog 27 #[.iface 3 (.int .i64 a), .iface 38 (.float .f64 (F y (-1)))] w fun e w' => e = .returned (.int .i64 q) ∧ w = w')
    (hend : 0 ≤ p * q) :
    Calls Tryz.prog 33 #[.pointer (some ⟨B, 0, none⟩)] w fun e w' => e = .returned (.tuple #[.nilIface, .bool false]) ∧ Drawn w w' := by
  have mk := fun (x : Value) (w : World) => run_makeInterface (P := Tryz.prog) w 3 x (by kernel_rfl)
  obtain ⟨c0, c1, c2, f0⟩ := h
  generalize F y (-1) = Y at *
  have hm : -1 ≤ p * q ∧ p * q ≤ 1 := by
    rcases (show p = -1 ∨ p = 0 ∨ p = 1 by omega) with rfl | rfl | rfl <;> omega
  go_enter Tryz.func33, Tryz.ntmps33
  go_wp2_with fail
  go_quiet ((go_at_call 27; first | exact Calls.quiet_of_same ((C1 _).mono fun _ _ h => ⟨h.1, h.2.symm⟩) | exact Calls.quiet_of_same ((C2 _).mono fun _ _ h => ⟨h.1, h.2.symm⟩)))
  go_wp2
  go_ret2
  exact ⟨rfl, ⟨_, rfl⟩⟩

set_option maxRecDepth 100000 in
set_option maxHeartbeats 1600000 in
theorem nextGoE_any (B : Nat) (a s p q y : Int) (w : World) (h : Iter w B (.iface 3 (.int .i64 a)) (.iface 38 (.float .f64 (F y (-1)))) (.iface 3 (.int .i64 s)))
    (r1 : -1 ≤ p ∧ p ≤ 1) (r2 : -1 ≤ q ∧ q ≤ 1)
    (C1 : ∀ w : World, Calls Tryz.prog 27 #[.iface 3 (.int .i64 s), .iface 3 (.int .i64 0)] w fun e w' => e = .returned (.int .i64 p) ∧ w = w')
    (C2 : ∀ w : World, Calls Tryz.prog 27 #[.iface 3 (.int .i64 a), .iface 38 (.float .f64 (F y (-1)))] w fun e w' => e = .returned (.int .i64 q) ∧ w = w')
    (hgo : p * q < 0) (ha : -4611686018427387904 ≤ a ∧ a ≤ 4611686018427387904) (hs : -4611686018427387904 ≤ s ∧ s < 4611686018427387904) :
    Calls Tryz.prog 33 #[.pointer (some ⟨B, 0, none⟩)] w fun e w' => e = .returned (.tuple #[.iface 3 (.int .i64 a), .bool true]) ∧ ∃ n, w' = (w.drewN n).setCell ⟨B, 0, none⟩ (.iface 3 (.int .i64 (a + s))) := by
  have mk := fun (x : Value) (w : World) => run_makeInterface (P := Tryz.prog) w 3 x (by kernel_rfl)
  obtain ⟨c0, c1, c2, f0⟩ := h
  generalize F y (-1) = Y at *
  have hm : -1 ≤ p * q ∧ p * q ≤ 1 := by
    rcases (show p = -1 ∨ p = 0 ∨ p = 1 by omega) with rfl | rfl | rfl <;> omega
  have HO := fun (w : World) => opAdd_any a s w ha hs
  go_enter Tryz.func33, Tryz.ntmps33
  go_wp2_with fail
  go_quiet ((go_at_call 27; first | exact Calls.quiet_of_same ((C1 _).mono fun _ _ h => ⟨h.1, h.2.symm⟩) | exact Calls.quiet_of_same ((C2 _).mono fun _ _ h => ⟨h.1, h.2.symm⟩)))
  go_wp2_with (go_at_call 50; refine (HO _).mono ?_; rintro e w' ⟨rfl, rfl⟩)
  go_ret2
  exact ⟨rfl, _, rfl⟩

/-- n is the number of steps from a by s (upwards) that do not pass b and a half. -/
structure MCount (a b s : Int) (n : Nat) : Prop where
  go : ∀ i : Nat, i < n → cmpI s 0 * cmpI ((a + i * s) * 2) (b * 2 + 1) < 0
  stop : 0 ≤ cmpI s 0 * cmpI ((a + n * s) * 2) (b * 2 + 1)
  near : ∀ i : Nat, i ≤ n → -8796093022208 ≤ (i : Int) * s ∧ (i : Int) * s ≤ 8796093022208

theorem mcount_up {a b s : Int} {n : Nat} (h : InR a b s) (hs : 0 < s) (h1 : (n : Int) * s - s ≤ b - a) (h2 : b - a < (n : Int) * s) : MCount a b s n := by
  obtain ⟨_, _, _, _, _, _⟩ := h
  have hm : ∀ i : Nat, i ≤ n → (i : Int) * s ≤ (n : Int) * s := fun i hi => Int.mul_le_mul_of_nonneg_right (by omega) (by omega)
  have h0 : ∀ i : Nat, 0 ≤ (i : Int) * s := fun i => Int.mul_nonneg (by omega) (by omega)
  refine ⟨fun i hi => ?_, ?_, fun i hi => ?_⟩
  · have e := hm (i + 1) hi
    have e2 : ((i + 1 : Nat) : Int) * s = (i : Int) * s + s := by push_cast; rw [Int.add_mul, Int.one_mul]
    rw [cmpI_gt hs, cmpI_lt (by omega)]
    decide
  · rw [cmpI_gt hs, cmpI_gt (by omega)]; decide
  · have := hm i hi
    have := h0 i
    omega
theorem mcount_none {a b s : Int} (hs : 0 < s) (h : b < a) : MCount a b s 0 := by
  refine ⟨fun i hi => by omega, ?_, fun i hi => ?_⟩
  · have e : a + ((0 : Nat) : Int) * s = a := by simp
    rw [e, cmpI_gt hs, cmpI_gt (by omega)]; decide
  · obtain rfl : i = 0 := by omega
    simp

theorem MixR.half {n : Int} {v : Value} (h : MixR 2 n v) : v = .iface 38 (.float .f64 (F (n * 2 + 1) (-1))) := by
  rcases h with ⟨h, _⟩ | ⟨h, _⟩ | ⟨_, h⟩ | ⟨h, _⟩ | ⟨h, _⟩ | ⟨h, _⟩ | ⟨h, _⟩ | ⟨h, _⟩
  all_goals first | exact h | omega

theorem cmpMix_any (a y : Int) (ha : -17592186044416 ≤ a ∧ a ≤ 17592186044416) (hy : -17592186044416 ≤ y ∧ y ≤ 17592186044416) (w : World) :
    Calls Tryz.prog 27 #[.iface 3 (.int .i64 a), .iface 38 (.float .f64 (F y (-1)))] w fun e w' => e = .returned (.int .i64 (cmpI (a * 2) y)) ∧ w = w' := by
  have e : F a 0 = F (a * 2) (-1) := by
    have := F_shift a (-1) 1 (by omega) (by omega)
    exact this.symm
  exact compareIF_any a (a * 2) y (-1) e (by unfold Fits; omega) (by unfold Fits; omega) (by omega) (by omega) w

set_option maxRecDepth 100000 in
set_option maxHeartbeats 1600000 in
theorem law_FnFuncRangeMixedIntFloatEnd (a b s : Int) (w : World) :
    Calls Tryz.prog 7 #[.int .i64 a, .int .i64 b, .int .i64 s] w (Holds w) := by
  have nn := fun (w : World) => nil_eql_nil w
  go_enter Tryz.func7, Tryz.ntmps7
  go_wp2_with fail
  refine (inRange_any a b s w).mono ?_
  rintro e w' ⟨⟨c, rfl, hc⟩, rfl⟩
  cases c with
  | false =>
    go_wp2
    go_ret
    exact ⟨rfl, Below.refl _ _⟩
  | true =>
  have hin := hc rfl
  clear hc
  have hin0 := hin
  obtain ⟨_, _, _, _, _, _⟩ := hin0
  by_cases hs0 : s ≤ 0
  · go_wp2
    go_ret
    exact ⟨rfl, Below.refl _ _⟩
  have hs1 : 0 < s := by omega
  have hs2 : ¬ s = 0 := by omega
  go_upto_if 26 with fail
  go_cut [7] (fun v wx => ∃ n : Nat, v = .int .i64 n ∧ Hid (MCount a b s n) ∧ wx = w)
  case first =>
    by_cases hab : a ≤ b
    · obtain ⟨m, hm⟩ : ∃ m : Nat, (m : Int) = (b - a).tdiv s := by
        rw [Int.tdiv_eq_ediv_of_nonneg (by omega)]
        exact ⟨((b - a) / s).toNat, by have := Int.ediv_nonneg (show 0 ≤ b - a by omega) (show 0 ≤ s by omega); omega⟩
      have hmm := hm
      rw [Int.tdiv_eq_ediv_of_nonneg (by omega)] at hm
      have e1 := Int.mul_ediv_add_emod (b - a) s
      have e2 := Int.emod_nonneg (b - a) (show s ≠ 0 by omega)
      have e3 := Int.emod_lt_of_pos (b - a) hs1
      rw [← hm, Int.mul_comm] at e1
      have e4 : ((m + 1 : Nat) : Int) * s = (m : Int) * s + s := by push_cast; rw [Int.add_mul, Int.one_mul]
      have hmc : Hid (MCount a b s (m + 1)) := mcount_up hin hs1 (by omega) (by omega)
      have hnb : (m : Int) ≤ 8796093022208 := by
        have h5 : (m : Int) * 1 ≤ (m : Int) * s := Int.mul_le_mul_of_nonneg_left (by omega) (by omega)
        omega
      have hnb2 : (b - a).tdiv s ≤ 8796093022208 := by omega
      have hnb3 : 0 ≤ (b - a).tdiv s := by omega
      have HMM : Hid ((m : Int) = (b - a).tdiv s) := hmm
      clear e1 e2 e3 e4 hm hmm
      go_wp2_with fail
      go_meet
      exact ⟨m + 1, by rw [← HMM.out]; first | rfl | go_num, hmc, rfl⟩
    · have hmc : Hid (MCount a b s 0) := mcount_none hs1 (by omega)
      go_wp2_with fail
      go_meet
      exact ⟨0, rfl, hmc, rfl⟩
  case rest =>
  obtain ⟨n, rfl, HRC, hwc⟩ := hcut
  have hwc' : w = wc := hwc.symm
  clear hwc
  subst hwc'
  have hrc := HRC.out
  by_cases hn : 65536 < n
  · have hn' : (65536 : Int) < (n : Int) := by omega
    go_wp2
    go_ret
    exact ⟨rfl, Below.refl _ _⟩
  have hn' : ¬ (65536 : Int) < (n : Int) := by omega
  have hin' := hin
  obtain ⟨_, _, _, _, _, _⟩ := hin'
  obtain ⟨w4, hw4⟩ : ∃ w4, w4 = (w.alloc (.cells (intV [a, b, s]).toArray 3)).alloc (.cells (intV [0, 2, 0]).toArray 3) := ⟨_, rfl⟩
  have hb4 : Below w.heap.size w w4 := by rw [hw4]; exact ((Below.refl _ _).alloc (Nat.le_refl _) _).alloc (by simp) _
  have q1 : Row w4 (some ⟨w.heap.size, 0, none⟩) (intV [a, b, s]) := by
    rw [hw4]
    exact (row_new w [a, b, s]).below (Nat.le_refl _) ((Below.refl _ _).alloc (Nat.le_refl _) _)
  have q2 : Row w4 (some ⟨w.heap.size + 1, 0, none⟩) (intV [0, 2, 0]) := by
    rw [hw4]
    have := row_new (w.alloc (.cells (intV [a, b, s]).toArray 3)) [0, 2, 0]
    simpa using this
  have HM := mixed_any (some ⟨w.heap.size, 0, none⟩) (some ⟨w.heap.size + 1, 0, none⟩) 3 3 [a, b, s] [0, 2, 0] w4 rfl (by simp) (by intro k hk; simp at hk; omega) (by intro k hk; simp at hk; omega) q1 q2
  rw [hw4] at HM
  have HM' : Hid (Calls Tryz.prog 16 _ _ _) := HM
  have hb4' : Hid (Below w.heap.size w w4) := hb4
  have HW : Hid (w4 = _) := hw4
  have HIN : Hid (InR a b s) := hin
  clear HM q1 q2 hb4 hw4 hin
  go_wp2_with fail
  refine HM'.out.mono ?_
  rintro e w5 ⟨vals, hmix, hlen, a5, c5, n5, hn5, rfl, hown5, hb5, _⟩
  rw [← HW.out] at hown5 hb5
  obtain ⟨v0, v1, v2, rfl, g0, g1, g2⟩ := mixRow3 hmix.out hlen
  obtain rfl := g0.int
  obtain rfl := g1.half
  obtain rfl := g2.int
  obtain rfl : n5 = 3 := hn5
  have q5 := made_row rfl hown5
  have hbw5 : Below w.heap.size w w5 := hb4'.out.trans (hb5.mono hb4'.out.size)
  have hFR := zzFuncRange_any a5 c5 _ _ _ w5 q5 (.inl ⟨_, rfl⟩) (.inr ⟨_, rfl⟩) (.inl ⟨_, rfl⟩)
  have HFR : Hid (Calls Tryz.prog 32 _ w5 _) := hFR
  clear HM' hown5 hb5 hb4' HW hmix hlen q5 hFR g0 g1 g2
  go_wp2_with fail
  refine HFR.out.mono ?_
  rintro e w6 ⟨B, rfl, hB, hb6, hI⟩
  have hbw6 := hbw5.trans (hb6.mono hbw5.size)
  have hBw : w.heap.size ≤ B := Nat.le_trans hbw5.size hB
  clear HFR hb6 hbw5 hB
  go_wp2_with fail
  refine (zzRangeOf_any _ w6).mono ?_
  rintro e w7 ⟨rfl, rfl⟩
  go_wp2_with fail
  go_loopw [10] (fun v wr => ∃ k : Nat, k ≤ n ∧ v = .int .i64 k ∧ Hid (Iter wr B (.iface 3 (.int .i64 (a + k * s))) (.iface 38 (.float .f64 (F (b * 2 + 1) (-1)))) (.iface 3 (.int .i64 s))) ∧ Below w.heap.size w wr)
    (fun v _ => n - (intOf v).toNat)
  case atStart => exact ⟨0, by omega, rfl, by show Iter _ _ _ _ _; simpa using hI, hbw6⟩
  case round =>
    clear hI hbw6
    obtain ⟨k, hk, rfl, hI, hb⟩ := hrel
    have hnear := hrc.near k hk
    by_cases hlt : k < n
    · have hki : (k : Int) < (n : Int) := by omega
      have hN := nextGoE_any B (a + k * s) s _ _ (b * 2 + 1) wr hI.out (cmpI_range s 0) (cmpI_range _ _) (fun w => compareInt_any s 0 w) (fun w => cmpMix_any (a + k * s) (b * 2 + 1) (by omega) (by omega) w) (hrc.go k hlt) (by omega) (by omega)
      have HN : Hid (Calls Tryz.prog 33 _ wr _) := hN
      clear hN
      go_wp2_with fail
      refine HN.out.mono ?_
      rintro e w8 ⟨rfl, m, rfl⟩
      have hI2 := hI.out.next m (.iface 3 (.int .i64 (a + k * s + s)))
      have hb2 : Below w.heap.size w ((wr.drewN m).setCell ⟨B, 0, none⟩ (.iface 3 (.int .i64 (a + k * s + s)))) := (hb.trans (Drawn.below ⟨m, rfl⟩ _)).setCell hBw _
      rw [show a + k * s + s = a + ((k + 1 : Nat) : Int) * s by push_cast; rw [Int.add_mul, Int.one_mul]; omega] at hI2 hb2
      have HI2 : Hid (Iter _ B _ _ _) := hI2
      rw [show a + k * s + s = a + ((k + 1 : Nat) : Int) * s by push_cast; rw [Int.add_mul, Int.one_mul]; omega]
      generalize (wr.drewN m).setCell ⟨B, 0, none⟩ (.iface 3 (.int .i64 (a + ((k + 1 : Nat) : Int) * s))) = w8 at HI2 hb2
      clear hI HN hI2
      go_wp2_with fail
      refine (zzIntOf_any (a + k * s) w8).mono ?_
      rintro e w9 ⟨rfl, rfl⟩
      go_wp2_with fail
      go_roundw
      case rel => exact ⟨k + 1, by omega, by go_num, HI2, hb2⟩
      case measure => simp [intOf]; omega
    · have hki : ¬ (k : Int) < (n : Int) := by omega
      obtain rfl : k = n := by omega
      have hE := nextEndE_any B (a + k * s) s _ _ (b * 2 + 1) wr hI.out (cmpI_range s 0) (cmpI_range _ _) (fun w => compareInt_any s 0 w) (fun w => cmpMix_any (a + k * s) (b * 2 + 1) (by omega) (by omega) w) hrc.stop
      have HE : Hid (Calls Tryz.prog 33 _ wr _) := hE
      clear hE
      go_wp2_with fail
      refine HE.out.mono ?_
      rintro e w9 ⟨rfl, hd9⟩
      go_wp2
      go_ret
      exact ⟨rfl, hb.trans (hd9.below _)⟩
end Go.Proofs.YtepebjabacgeoaaGreatDoor
