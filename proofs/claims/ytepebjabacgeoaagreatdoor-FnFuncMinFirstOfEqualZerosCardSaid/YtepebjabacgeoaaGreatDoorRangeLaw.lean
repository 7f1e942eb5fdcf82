/-
  range over ints counts in closed form: the law's walk (folder n001_91).
-/
import Derived.Test.YtepebjabacgeoaaGreatDoorRange
import Derived.Test.YtepebjabacgeoaaGreatDoorMinLaw
namespace Go.Proofs.YtepebjabacgeoaaGreatDoor
open Go Go.RowKit

/-- The law's bounds. -/
def InR (a b s : Int) : Prop := -1099511627776 ≤ a ∧ a ≤ 1099511627776 ∧ -1099511627776 ≤ b ∧ b ≤ 1099511627776 ∧ -1099511627776 ≤ s ∧ s ≤ 1099511627776

/-- A bool that is true only within them. -/
def InRBool (a b s : Int) (e : Ending) : Prop := ∃ c : Bool, e = .returned (.bool c) ∧ (c = true → InR a b s)

theorem bound40_any (w : World) : Calls Tryz.prog 48 #[] w fun e w' => e = .returned (.int .i64 1099511627776) ∧ w = w' := by
  go_enter Tryz.func48, Tryz.ntmps48
  go_wp2
  go_ret
  exact ⟨rfl, rfl⟩

set_option maxHeartbeats 800000 in
theorem inRange_any (a b s : Int) (w : World) : Calls Tryz.prog 30 #[.int .i64 a, .int .i64 b, .int .i64 s] w fun e w' => InRBool a b s e ∧ w = w' := by
  have hB := fun (w : World) => bound40_any w
  by_cases h1 : -1099511627776 ≤ a
  · by_cases h2 : a ≤ 1099511627776
    · by_cases h3 : -1099511627776 ≤ b
      · by_cases h4 : b ≤ 1099511627776
        · by_cases h5 : -1099511627776 ≤ s
          · go_enter Tryz.func30, Tryz.ntmps30
            go_wp2_with (go_at_call 48; refine (hB _).mono ?_; rintro e w' ⟨rfl, rfl⟩)
            go_ret
            exact ⟨⟨_, rfl, fun h => ⟨h1, h2, h3, h4, h5, of_decide_eq_true h⟩⟩, rfl⟩
          · go_enter Tryz.func30, Tryz.ntmps30
            go_wp2_with (go_at_call 48; refine (hB _).mono ?_; rintro e w' ⟨rfl, rfl⟩)
            go_ret
            exact ⟨⟨false, rfl, fun h => by cases h⟩, rfl⟩
        · go_enter Tryz.func30, Tryz.ntmps30
          go_wp2_with (go_at_call 48; refine (hB _).mono ?_; rintro e w' ⟨rfl, rfl⟩)
          go_ret
          exact ⟨⟨false, rfl, fun h => by cases h⟩, rfl⟩
      · go_enter Tryz.func30, Tryz.ntmps30
        go_wp2_with (go_at_call 48; refine (hB _).mono ?_; rintro e w' ⟨rfl, rfl⟩)
        go_ret
        exact ⟨⟨false, rfl, fun h => by cases h⟩, rfl⟩
    · go_enter Tryz.func30, Tryz.ntmps30
      go_wp2_with (go_at_call 48; refine (hB _).mono ?_; rintro e w' ⟨rfl, rfl⟩)
      go_ret
      exact ⟨⟨false, rfl, fun h => by cases h⟩, rfl⟩
  · go_enter Tryz.func30, Tryz.ntmps30
    go_wp2_with (go_at_call 48; refine (hB _).mono ?_; rintro e w' ⟨rfl, rfl⟩)
    go_ret
    exact ⟨⟨false, rfl, fun h => by cases h⟩, rfl⟩

/-- n is the number of steps from a by s before b. -/
structure RCount (a b s : Int) (n : Nat) : Prop where
  go : ∀ i : Nat, i < n → cmpI s 0 * cmpI (a + i * s) b < 0
  stop : 0 ≤ cmpI s 0 * cmpI (a + n * s) b
  near : ∀ i : Nat, i ≤ n → -8796093022208 ≤ (i : Int) * s ∧ (i : Int) * s ≤ 8796093022208

theorem rcount_up {a b s : Int} {n : Nat} (h : InR a b s) (hs : 0 < s) (h1 : (n : Int) * s ≤ b - a + s - 1) (h2 : b - a ≤ (n : Int) * s) : RCount a b s n := by
  obtain ⟨_, _, _, _, _, _⟩ := h
  have hm : ∀ i : Nat, i ≤ n → (i : Int) * s ≤ (n : Int) * s := fun i hi => Int.mul_le_mul_of_nonneg_right (by omega) (by omega)
  have h0 : ∀ i : Nat, 0 ≤ (i : Int) * s := fun i => Int.mul_nonneg (by omega) (by omega)
  refine ⟨fun i hi => ?_, ?_, fun i hi => ?_⟩
  · have e := hm (i + 1) hi
    have e2 : ((i + 1 : Nat) : Int) * s = (i : Int) * s + s := by push_cast; rw [Int.add_mul, Int.one_mul]
    rw [cmpI_gt hs, cmpI_lt (by omega)]
    decide
  · rcases (show a + (n : Int) * s = b ∨ b < a + (n : Int) * s by omega) with e | e
    · rw [cmpI_gt hs, cmpI_eq e]; decide
    · rw [cmpI_gt hs, cmpI_gt e]; decide
  · have := hm i hi
    have := h0 i
    omega
theorem rcount_down {a b s : Int} {n : Nat} (h : InR a b s) (hs : s < 0) (h1 : b - a + s + 1 ≤ (n : Int) * s) (h2 : (n : Int) * s ≤ b - a) : RCount a b s n := by
  obtain ⟨_, _, _, _, _, _⟩ := h
  have hm : ∀ i : Nat, i ≤ n → (n : Int) * s ≤ (i : Int) * s := fun i hi => Int.mul_le_mul_of_nonpos_right (by omega) (by omega)
  have h0 : ∀ i : Nat, (i : Int) * s ≤ 0 := fun i => Int.mul_nonpos_of_nonneg_of_nonpos (by omega) (by omega)
  refine ⟨fun i hi => ?_, ?_, fun i hi => ?_⟩
  · have e := hm (i + 1) hi
    have e2 : ((i + 1 : Nat) : Int) * s = (i : Int) * s + s := by push_cast; rw [Int.add_mul, Int.one_mul]
    rw [cmpI_lt hs, cmpI_gt (by omega)]
    decide
  · rcases (show a + (n : Int) * s = b ∨ a + (n : Int) * s < b by omega) with e | e
    · rw [cmpI_lt hs, cmpI_eq e]; decide
    · rw [cmpI_lt hs, cmpI_lt e]; decide
  · have := hm i hi
    have := h0 i
    omega
theorem rcount_none {a b s : Int} (h : (0 < s → b ≤ a) ∧ (s < 0 → a ≤ b)) : RCount a b s 0 := by
  refine ⟨fun i hi => by omega, ?_, fun i hi => ?_⟩
  · have e : a + ((0 : Nat) : Int) * s = a := by simp
    rw [e]
    rcases Int.lt_trichotomy s 0 with hs | hs | hs
    · have := h.2 hs
      rcases (show a = b ∨ a < b by omega) with e | e
      · rw [cmpI_lt hs, cmpI_eq e]; decide
      · rw [cmpI_lt hs, cmpI_lt e]; decide
    · rw [cmpI_eq hs]; simp
    · have := h.1 hs
      rcases (show a = b ∨ b < a by omega) with e | e
      · rw [cmpI_gt hs, cmpI_eq e]; decide
      · rw [cmpI_gt hs, cmpI_gt e]; decide
  · obtain rfl : i = 0 := by omega
    simp

set_option maxHeartbeats 800000 in
theorem rangeCount_any (a b s : Int) (w : World) (h : InR a b s) : Calls Tryz.prog 34 #[.int .i64 a, .int .i64 b, .int .i64 s] w fun e w' => ∃ n : Nat, e = .returned (.int .i64 n) ∧ RCount a b s n ∧ w = w' := by
  have hr := h
  obtain ⟨_, _, _, _, _, _⟩ := hr
  by_cases hu : 0 < s
  · by_cases hd : 0 < b - a
    · obtain ⟨n, hn⟩ : ∃ n : Nat, (n : Int) = (b - a + s - 1).tdiv s := by
        rw [Int.tdiv_eq_ediv_of_nonneg (by omega)]
        exact ⟨((b - a + s - 1) / s).toNat, by have := Int.ediv_nonneg (show 0 ≤ b - a + s - 1 by omega) (show 0 ≤ s by omega); omega⟩
      have hnn := hn
      rw [Int.tdiv_eq_ediv_of_nonneg (by omega)] at hn
      have e1 := Int.mul_ediv_add_emod (b - a + s - 1) s
      have e2 := Int.emod_nonneg (b - a + s - 1) (show s ≠ 0 by omega)
      have e3 := Int.emod_lt_of_pos (b - a + s - 1) hu
      rw [← hn, Int.mul_comm] at e1
      have hrc : RCount a b s n := rcount_up h hu (by omega) (by omega)
      have hne : ¬ s = 0 := by omega
      have hnb : (n : Int) ≤ 8796093022208 := by
        have h5 : (n : Int) * 1 ≤ (n : Int) * s := Int.mul_le_mul_of_nonneg_left (by omega) (by omega)
        omega
      clear e1 e2 e3 hn
      go_enter Tryz.func34, Tryz.ntmps34
      go_wp2
      go_ret
      exact ⟨n, ret_int hnn.symm, hrc, rfl⟩
    · have hu' : ¬ s < 0 := by omega
      go_enter Tryz.func34, Tryz.ntmps34
      go_wp2
      go_ret
      exact ⟨0, rfl, rcount_none ⟨fun _ => by omega, fun _ => by omega⟩, rfl⟩
  · by_cases hu2 : s < 0
    · by_cases hd : b - a < 0
      · obtain ⟨n, hn⟩ : ∃ n : Nat, (n : Int) = (-(b - a) - s - 1).tdiv (-s) := by
          rw [Int.tdiv_eq_ediv_of_nonneg (by omega)]
          exact ⟨((-(b - a) - s - 1) / (-s)).toNat, by have := Int.ediv_nonneg (show 0 ≤ -(b - a) - s - 1 by omega) (show 0 ≤ -s by omega); omega⟩
        have hnn := hn
        rw [Int.tdiv_eq_ediv_of_nonneg (by omega)] at hn
        have e1 := Int.mul_ediv_add_emod (-(b - a) - s - 1) (-s)
        have e2 := Int.emod_nonneg (-(b - a) - s - 1) (show -s ≠ 0 by omega)
        have e3 := Int.emod_lt_of_pos (-(b - a) - s - 1) (show 0 < -s by omega)
        rw [← hn, Int.mul_comm, Int.mul_neg] at e1
        have hrc : RCount a b s n := rcount_down h hu2 (by omega) (by omega)
        have hne : ¬ -s = 0 := by omega
        have hnb : (n : Int) ≤ 8796093022208 := by
          have h5 : (n : Int) * 1 ≤ (n : Int) * (-s) := Int.mul_le_mul_of_nonneg_left (by omega) (by omega)
          rw [Int.mul_neg] at h5
          omega
        have hnn2 : Hid (wrap64 (-(-(b - a) - s - 1).tdiv s) = n) := by
          show _ = _
          rw [← Int.tdiv_neg, ← hnn]
          unfold wrap64
          omega
        clear e1 e2 e3 hn
        go_enter Tryz.func34, Tryz.ntmps34
        go_wp2
        go_ret
        exact ⟨n, ret_int hnn2.out, hrc, rfl⟩
      · go_enter Tryz.func34, Tryz.ntmps34
        go_wp2
        go_ret
        exact ⟨0, rfl, rcount_none ⟨fun _ => by omega, fun _ => by omega⟩, rfl⟩
    · go_enter Tryz.func34, Tryz.ntmps34
      go_wp2
      go_ret
      exact ⟨0, rfl, rcount_none ⟨fun _ => by omega, fun _ => by omega⟩, rfl⟩

theorem Iter.next {w : World} {B : Nat} {v e s : Value} (h : Iter w B v e s) (n : Nat) (u : Value) : Iter ((w.drewN n).setCell ⟨B, 0, none⟩ u) B u e s := by
  obtain ⟨c0, c1, c2, f0⟩ := h
  refine ⟨?_, ?_, ?_, ?_⟩
  · exact World.cell?_setCell_same _ _ _ (u := v) c0
  · rw [World.cell?_setCell_other _ _ _ _ (by simp)]; exact c1
  · rw [World.cell?_setCell_other _ _ _ _ (by simp)]; exact c2
  · rw [World.frozen?_setCell]; exact f0
theorem Iter.drawn {w w' : World} {B : Nat} {v e s : Value} (h : Iter w B v e s) (hd : Drawn w w') : Iter w' B v e s := by obtain ⟨n, rfl⟩ := hd; exact ⟨h.c0, h.c1, h.c2, h.f0⟩

theorem zzRangeOf_any (p : Option Addr) (w : World) : Calls Tryz.prog 31 #[.iface 53 (.pointer p)] w fun e w' => e = .returned (.tuple #[.pointer p, .bool true]) ∧ w = w' := by
  have h := fun (v : Value) (w : World) => (show (Instr.typeAssert (.iface 53 v) 20 53 true).run Tryz.prog w = .ok (.tuple #[v, .bool true]) w by kernel_rfl)
  go_enter Tryz.func31, Tryz.ntmps31
  go_wp2
  go_ret2
  exact ⟨rfl, rfl⟩
theorem zzFuncRange_any (a : Option Addr) (c : Nat) (v0 v1 v2 : Value) (w : World) (r : Row w a [v0, v1, v2]) (h0 : NumV v0) (h1 : NumV v1) (h2 : NumV v2) :
    Calls Tryz.prog 32 #[.slice a 3 c] w fun e w' => ∃ B, e = .returned (.iface 53 (.pointer (some ⟨B, 0, none⟩))) ∧ w.heap.size ≤ B ∧ Below w.heap.size w w' ∧ Iter w' B v0 v1 v2 := by
  have H : Hid (Calls Tryz.prog 49 _ w _) := funcRange_any a c v0 v1 v2 w r h0 h1 h2
  clear r
  go_enter Tryz.func32, Tryz.ntmps32
  go_wp2_with fail
  refine H.out.mono ?_
  rintro e w' ⟨B, rfl, hB, hb, hI⟩
  go_wp2
  go_ret
  exact ⟨B, rfl, hB, hb, hI⟩

theorem row3_new (w : World) (e : TypeId) (vs : List Value) : Row (w.alloc (.cells vs.toArray e)) (some ⟨w.heap.size, 0, none⟩) vs :=
  .inr ⟨w.heap.size, 0, rfl, by simp, fun j u hu => by
    have h := cells_new w vs e j u hu
    rw [Addr.add_lit] at h
    exact h⟩

/-- The iterator is made: two literal rows, the mixed values, range, the assertion. -/
theorem mixRow3 {k0 k1 k2 n0 n1 n2 : Int} {vals : List Value} (h : MixRow [k0, k1, k2] [n0, n1, n2] vals) (hl : vals.length = 3) : ∃ v0 v1 v2, vals = [v0, v1, v2] ∧ MixR k0 n0 v0 ∧ MixR k1 n1 v1 ∧ MixR k2 n2 v2 := by
  match vals, hl with
  | [v0, v1, v2], _ =>
    obtain ⟨_, _, e1, e2, g0⟩ := h 0 v0 rfl
    obtain ⟨_, _, e3, e4, g1⟩ := h 1 v1 rfl
    obtain ⟨_, _, e5, e6, g2⟩ := h 2 v2 rfl
    simp at e1 e2 e3 e4 e5 e6
    subst e1 e2 e3 e4 e5 e6
    exact ⟨v0, v1, v2, rfl, g0, g1, g2⟩
theorem MixR.int {n : Int} {v : Value} (h : MixR 0 n v) : v = .iface 3 (.int .i64 n) := by
  rcases h with ⟨_, h⟩ | ⟨h, _⟩ | ⟨h, _⟩ | ⟨h, _⟩ | ⟨h, _⟩ | ⟨h, _⟩ | ⟨h, _⟩ | ⟨h, _⟩
  all_goals first | exact h | omega

set_option maxRecDepth 100000 in
set_option maxHeartbeats 1600000 in
theorem law_FnRangeNextIntsClosedForm (a b s : Int) (w : World) :
    Calls Tryz.prog 9 #[.int .i64 a, .int .i64 b, .int .i64 s] w (Holds w) := by
  have nn := fun (w : World) => nil_neq_nil w
  go_enter Tryz.func9, Tryz.ntmps9
  go_wp2_with fail
  refine (inRange_any a b s w).mono ?_
  rintro e w' ⟨⟨c, rfl, hc⟩, rfl⟩
  cases c with
  | false =>
    go_wp2
    go_ret
    exact ⟨rfl, Below.refl _ _⟩
  | true =>
  have hin := hc rfl
  clear hc
  go_wp2_with fail
  refine (rangeCount_any a b s w hin).mono ?_
  rintro e w' ⟨n, rfl, hrc, rfl⟩
  by_cases hn : 65536 < n
  · have hn' : (65536 : Int) < (n : Int) := by omega
    go_wp2
    go_ret
    exact ⟨rfl, Below.refl _ _⟩
  have hn' : ¬ (65536 : Int) < (n : Int) := by omega
  have hin' := hin
  obtain ⟨_, _, _, _, _, _⟩ := hin'
  obtain ⟨w4, hw4⟩ : ∃ w4, w4 = (w.alloc (.cells (intV [a, b, s]).toArray 3)).alloc (.cells (intV [0, 0, 0]).toArray 3) := ⟨_, rfl⟩
  have hb4 : Below w.heap.size w w4 := by rw [hw4]; exact ((Below.refl _ _).alloc (Nat.le_refl _) _).alloc (by simp) _
  have q1 : Row w4 (some ⟨w.heap.size, 0, none⟩) (intV [a, b, s]) := by
    rw [hw4]
    exact (row_new w [a, b, s]).below (Nat.le_refl _) ((Below.refl _ _).alloc (Nat.le_refl _) _)
  have q2 : Row w4 (some ⟨w.heap.size + 1, 0, none⟩) (intV [0, 0, 0]) := by
    rw [hw4]
    have := row_new (w.alloc (.cells (intV [a, b, s]).toArray 3)) [0, 0, 0]
    simpa using this
  have HM := mixed_any (some ⟨w.heap.size, 0, none⟩) (some ⟨w.heap.size + 1, 0, none⟩) 3 3 [a, b, s] [0, 0, 0] w4 rfl (by simp) (by intro k hk; simp at hk; omega) (by intro k hk; simp at hk; omega) q1 q2
  rw [hw4] at HM
  have HM' : Hid (Calls Tryz.prog 16 _ _ _) := HM
  have hb4' : Hid (Below w.heap.size w w4) := hb4
  have HW : Hid (w4 = _) := hw4
  have HIN : Hid (InR a b s) := hin
  clear HM q1 q2 hb4 hw4 hin
  go_wp2_with fail
  refine HM'.out.mono ?_
  rintro e w5 ⟨vals, hmix, hlen, a5, c5, n5, hn5, rfl, hown5, hb5, _⟩
  rw [← HW.out] at hown5 hb5
  obtain ⟨v0, v1, v2, rfl, g0, g1, g2⟩ := mixRow3 hmix.out hlen
  obtain rfl := g0.int
  obtain rfl := g1.int
  obtain rfl := g2.int
  obtain rfl : n5 = 3 := hn5
  have q5 := made_row rfl hown5
  have hbw5 : Below w.heap.size w w5 := hb4'.out.trans (hb5.mono hb4'.out.size)
  have hFR := zzFuncRange_any a5 c5 _ _ _ w5 q5 (.inl ⟨_, rfl⟩) (.inl ⟨_, rfl⟩) (.inl ⟨_, rfl⟩)
  have HFR : Hid (Calls Tryz.prog 32 _ w5 _) := hFR
  clear HM' hown5 hb5 hb4' HW hmix hlen q5 hFR g0 g1 g2
  go_wp2_with fail
  refine HFR.out.mono ?_
  rintro e w6 ⟨B, rfl, hB, hb6, hI⟩
  have hbw6 := hbw5.trans (hb6.mono hbw5.size)
  have hBw : w.heap.size ≤ B := Nat.le_trans hbw5.size hB
  clear HFR hb6 hbw5 hB
  go_wp2_with fail
  refine (zzRangeOf_any _ w6).mono ?_
  rintro e w7 ⟨rfl, rfl⟩
  go_wp2_with fail
  go_loopw [10] (fun v wr => ∃ k : Nat, k ≤ n ∧ v = .int .i64 k ∧ Hid (Iter wr B (.iface 3 (.int .i64 (a + k * s))) (.iface 3 (.int .i64 b)) (.iface 3 (.int .i64 s))) ∧ Below w.heap.size w wr)
    (fun v _ => n - (intOf v).toNat)
  case atStart => exact ⟨0, by omega, rfl, by show Iter _ _ _ _ _; simpa using hI, hbw6⟩
  case round =>
    clear hI hbw6
    obtain ⟨k, hk, rfl, hI, hb⟩ := hrel
    have hnear := hrc.near k hk
    by_cases hlt : k < n
    · have hki : (k : Int) < (n : Int) := by omega
      have hN := nextGo_any B (a + k * s) b s wr hI.out (hrc.go k hlt) (by omega) (by omega)
      have HN : Hid (Calls Tryz.prog 33 _ wr _) := hN
      clear hN
      go_wp2_with fail
      refine HN.out.mono ?_
      rintro e w8 ⟨rfl, m, rfl⟩
      have hI2 := hI.out.next m (.iface 3 (.int .i64 (a + k * s + s)))
      have hb2 : Below w.heap.size w ((wr.drewN m).setCell ⟨B, 0, none⟩ (.iface 3 (.int .i64 (a + k * s + s)))) := (hb.trans (Drawn.below ⟨m, rfl⟩ _)).setCell hBw _
      rw [show a + k * s + s = a + ((k + 1 : Nat) : Int) * s by push_cast; rw [Int.add_mul, Int.one_mul]; omega] at hI2 hb2
      have HI2 : Hid (Iter _ B _ _ _) := hI2
      rw [show a + k * s + s = a + ((k + 1 : Nat) : Int) * s by push_cast; rw [Int.add_mul, Int.one_mul]; omega]
      generalize (wr.drewN m).setCell ⟨B, 0, none⟩ (.iface 3 (.int .i64 (a + ((k + 1 : Nat) : Int) * s))) = w8 at HI2 hb2
      clear hI HN hI2
      go_wp2_with fail
      refine (zzIntOf_any (a + k * s) w8).mono ?_
      rintro e w9 ⟨rfl, rfl⟩
      go_wp2_with fail
      go_roundw
      case rel => exact ⟨k + 1, by omega, by go_num, HI2, hb2⟩
      case measure => simp [intOf]; omega
    · have hki : ¬ (k : Int) < (n : Int) := by omega
      obtain rfl : k = n := by omega
      have hstop := hrc.stop
      have hE := fun (wz : World) (h : Iter wz B (.iface 3 (.int .i64 (a + k * s))) (.iface 3 (.int .i64 b)) (.iface 3 (.int .i64 s))) => nextEnd_any B (a + k * s) b s wz h hstop
      have HE : Hid (∀ wz : World, Iter wz B (.iface 3 (.int .i64 (a + k * s))) (.iface 3 (.int .i64 b)) (.iface 3 (.int .i64 s)) → _) := hE
      clear hE hstop
      go_wp2_with fail
      go_loopw [15] (fun v wx => ∃ j : Nat, j ≤ 2 ∧ v = .int .i64 j ∧ Drawn wr wx) (fun v _ => 2 - (intOf v).toNat)
      case atStart => exact ⟨0, by omega, rfl, Drawn.refl wr⟩
      case round =>
        obtain ⟨j, hj, rfl, hd⟩ := hrel
        by_cases hjl : j < 2
        · have hji : (j : Int) < 2 := by omega
          have hI3 := HE.out wr (hI.out.drawn hd)
          have HI3 : Hid (Calls Tryz.prog 33 _ wr _) := hI3
          clear hI3
          go_wp2_with fail
          refine HI3.out.mono ?_
          rintro e w9 ⟨rfl, hd9⟩
          go_wp2_with fail
          go_roundw
          case rel => exact ⟨j + 1, by omega, by go_num, hd.trans hd9⟩
          case measure => simp [intOf]; omega
        · have hji : ¬ (j : Int) < 2 := by omega
          go_wp2
          go_ret
          exact ⟨rfl, hb.trans (hd.below _)⟩
end Go.Proofs.YtepebjabacgeoaaGreatDoor
