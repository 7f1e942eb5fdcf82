/-
  Floats that stand for whole numbers, both zeros among them: their order, Compare, min over a row (folder n001_91).
-/
import Derived.Test.YtepebjabacgeoaaGreatDoorQuart
import Derived.Test.YtepebjabacgeoaaGreatDoorMinLaw
namespace Go.Proofs.YtepebjabacgeoaaGreatDoor
open Go Go.RowKit

/-- The bits X stand for the whole number v. -/
def Rep (X : Nat) (v : Int) : Prop := ∃ s m p, Ieee.double.read X = .number s m p ∧ -1074 ≤ p ∧ Ieee.signed s m (p + 1074).toNat = v * 2 ^ ((0 : Int) + 1074).toNat
theorem rep_F (v : Int) (h : Fits v) : Rep (F v 0) v := by
  obtain ⟨m, p, h1, h2, h3⟩ := F_read v 0 h (by omega) (by omega)
  exact ⟨_, m, p, h1, h2, h3⟩
theorem rep_negZero : Rep (Ieee.double.word true 0) 0 := ⟨true, 0, -1074, read_zero true, by omega, by rw [signed_zero, Int.zero_mul]⟩
theorem rep_order {X Y : Nat} {x y : Int} (hx : Rep X x) (hy : Rep Y y) : (FloatKind.format .f64).order X Y = some (compare x y) := by
  obtain ⟨s, m, i, r1, hi, w1⟩ := hx
  obtain ⟨t, n, j, r2, hj, w2⟩ := hy
  show Ieee.Datum.order (Ieee.double.read X) (Ieee.double.read Y) = _
  rw [r1, r2]
  simp only [Ieee.Datum.order, Option.some.injEq]
  obtain ⟨base, hb⟩ : ∃ base, base = min i j := ⟨_, rfl⟩
  rw [← hb]
  have hq : (0 : Int) < 2 ^ ((0 : Int) + 1074).toNat := Int.pow_pos (by omega)
  have hq2 : (0 : Int) < 2 ^ (base + 1074).toNat := Int.pow_pos (by omega)
  rw [← compare_scale _ _ _ hq2, ← signed_scale, ← signed_scale, show (i - base).toNat + (base + 1074).toNat = (i + 1074).toNat by omega, show (j - base).toNat + (base + 1074).toNat = (j + 1074).toNat by omega, w1, w2, compare_scale _ _ _ hq]

theorem repNaN_any {X : Nat} {x : Int} (hx : Rep X x) (w : World) : Calls Tryz.prog 56 #[.float .f64 X] w fun e w' => e = .returned (.bool false) ∧ w = w' := by
  have h := rep_order hx hx
  rw [cmp_eq] at h
  clear hx
  go_enter Tryz.func56, Tryz.ntmps56
  go_wp2
  go_ret
  exact ⟨rfl, rfl⟩
theorem repLt_any {X Y : Nat} {x y : Int} (hx : Rep X x) (hy : Rep Y y) (w : World) : Calls Tryz.prog 40 #[.float .f64 X, .float .f64 Y] w fun e w' => e = .returned (.bool (decide (x < y))) ∧ w = w' := by
  have h := rep_order hx hy
  have hN := fun (w : World) => repNaN_any hx w
  have HN : Hid (∀ w : World, Calls Tryz.prog 56 #[.float .f64 X] w _) := hN
  clear hN hx hy
  by_cases hlt : x < y
  · rw [cmp_lt hlt] at h
    rw [decide_eq_true hlt]
    go_enter Tryz.func40, Tryz.ntmps40
    go_wp2_with fail
    go_ret
    exact ⟨rfl, rfl⟩
  · rw [decide_eq_false hlt]
    rcases (show y < x ∨ x = y by omega) with e | e
    · rw [cmp_gt e] at h
      go_enter Tryz.func40, Tryz.ntmps40
      go_wp2_with (go_at_call 56; refine (HN.out _).mono ?_; rintro e w' ⟨rfl, rfl⟩)
      go_ret
      exact ⟨rfl, rfl⟩
    · subst e
      rw [cmp_eq] at h
      go_enter Tryz.func40, Tryz.ntmps40
      go_wp2_with (go_at_call 56; refine (HN.out _).mono ?_; rintro e w' ⟨rfl, rfl⟩)
      go_ret
      exact ⟨rfl, rfl⟩
theorem repCmp_any {X Y : Nat} {x y : Int} (hx : Rep X x) (hy : Rep Y y) (w : World) :
    Calls Tryz.prog 39 #[.float .f64 X, .float .f64 Y] w fun e w' => e = .returned (.int .i64 (cmpI x y)) ∧ w = w' := by
  have h := rep_order hx hy
  have hL := fun (w : World) => repLt_any hx hy w
  clear hx hy
  rcases (show x < y ∨ y < x ∨ x = y by omega) with e | e | e
  · rw [decide_eq_true e] at hL
    have HL : Hid (∀ w : World, Calls Tryz.prog 40 #[.float .f64 X, .float .f64 Y] w _) := hL
    clear hL h
    go_enter Tryz.func39, Tryz.ntmps39
    go_wp2_with (go_at_call 40; refine (HL.out _).mono ?_; rintro e w' ⟨rfl, rfl⟩)
    go_ret
    exact ⟨ret_int (cmpI_lt e).symm, rfl⟩
  · rw [decide_eq_false (show ¬ x < y by omega)] at hL
    rw [cmp_gt e] at h
    have HL : Hid (∀ w : World, Calls Tryz.prog 40 #[.float .f64 X, .float .f64 Y] w _) := hL
    clear hL
    go_enter Tryz.func39, Tryz.ntmps39
    go_wp2_with (go_at_call 40; refine (HL.out _).mono ?_; rintro e w' ⟨rfl, rfl⟩)
    go_ret
    exact ⟨ret_int (cmpI_gt e).symm, rfl⟩
  · subst e
    rw [decide_eq_false (show ¬ x < x by omega)] at hL
    rw [cmp_eq] at h
    have HL : Hid (∀ w : World, Calls Tryz.prog 40 #[.float .f64 X, .float .f64 Y] w _) := hL
    clear hL
    go_enter Tryz.func39, Tryz.ntmps39
    go_wp2_with (go_at_call 40; refine (HL.out _).mono ?_; rintro e w' ⟨rfl, rfl⟩)
    go_ret
    exact ⟨ret_int (cmpI_eq rfl).symm, rfl⟩

set_option maxRecDepth 100000 in
set_option maxHeartbeats 1600000 in
theorem compareRep_any {X Y : Nat} {x y : Int} (hx : Rep X x) (hy : Rep Y y) (w : World) :
    Calls Tryz.prog 27 #[.iface 38 (.float .f64 X), .iface 38 (.float .f64 Y)] w fun e w' => e = .returned (.int .i64 (cmpI x y)) ∧ w = w' := by
  have g3 := fun (v : Value) (w : World) => q_f_num v w
  have g4 := fun (v : Value) (w : World) => q_f_int v w
  have g5 := fun (v : Value) (w : World) => q_f_flt v w
  have HC : Hid (∀ w : World, Calls Tryz.prog 39 _ w _) := fun w => repCmp_any hx hy w
  clear hx hy
  go_enter Tryz.func27, Tryz.ntmps27
  go_wp2_with (first | (go_at_call 39; refine (HC.out _).mono ?_; rintro e w' ⟨rfl, rfl⟩) | go_in)
  go_ret
  exact ⟨rfl, rfl⟩

/-- Of the first k numbers the one at j is the first least. -/
def First (vs : List Int) (k j : Nat) : Prop := j < k ∧ ∀ i, i < k → vs.getD j 0 ≤ vs.getD i 0 ∧ (i < j → vs.getD j 0 < vs.getD i 0)
theorem First.one (vs : List Int) : First vs 1 0 := ⟨by omega, fun i hi => by
  obtain rfl : i = 0 := by omega
  exact ⟨Int.le_refl _, fun h => by omega⟩⟩
theorem First.step_new {vs : List Int} {k j : Nat} (h : First vs k j) (hm : vs.getD k 0 < vs.getD j 0) : First vs (k + 1) k := by
  refine ⟨by omega, fun i hi => ?_⟩
  rcases (show i < k ∨ i = k by omega) with hk | rfl
  · have := (h.2 i hk).1
    exact ⟨by omega, fun _ => by omega⟩
  · exact ⟨Int.le_refl _, fun h => by omega⟩
theorem First.step_old {vs : List Int} {k j : Nat} (h : First vs k j) (hm : vs.getD j 0 ≤ vs.getD k 0) : First vs (k + 1) j := by
  have hj := h.1
  refine ⟨by omega, fun i hi => ?_⟩
  rcases (show i < k ∨ i = k by omega) with hk | rfl
  · exact h.2 i hk
  · exact ⟨hm, fun h => by omega⟩
theorem First.uniq {vs : List Int} {k i j : Nat} (h : First vs k i) (g : First vs k j) : i = j := by
  have a := h.2 j g.1
  have b := g.2 i h.1
  rcases Nat.lt_trichotomy i j with e | e | e
  · have := b.2 e; omega
  · exact e
  · have := a.2 e; omega
theorem getD_int {xs : List Int} {k : Nat} (h : k < xs.length) : xs.getD k 0 = xs[k] := by simp [List.getD, h]
theorem getD_nat {xs : List Nat} {k : Nat} (h : k < xs.length) : xs.getD k 0 = xs[k] := by simp [List.getD, h]

set_option maxRecDepth 100000 in
set_option maxHeartbeats 800000 in
theorem minMaxByF_any (a : Option Addr) (c : Nat) (fs : List Nat) (vs : List Int) (w : World) (hl : fs.length ≤ 1099511627776) (hpos : 0 < fs.length) (hrep : ∀ i, i < fs.length → Rep (fs.getD i 0) (vs.getD i 0)) (r : Row w a (anyF fs)) :
    Calls Tryz.prog 51 #[.slice a fs.length c, .slice a fs.length c, .bool true] w fun e w' => ∃ j, First vs fs.length j ∧ e = .returned (.iface 38 (.float .f64 (fs.getD j 0))) ∧ Drawn w w' := by
  have hne : ((fs.length : Int) == 0) = false := beq_eq_false_iff_ne.2 (by omega)
  obtain ⟨b, off, rfl, hbw, hc⟩ := r.at (k := 0) (by rw [anyF_len]; exact hpos)
  have hc0 : w.cell? ⟨b, off + 0, none⟩ = some (.iface 38 (.float .f64 fs[0])) := hc 0 _ (anyF_get fs hpos)
  rw [Nat.add_zero] at hc0
  have hp0 : (0 : Int) < (fs.length : Int) := by omega
  have HC : Hid (∀ j u, (anyF fs)[j]? = some u → w.cell? ⟨b, off + j, none⟩ = some u) := hc
  have HR : Hid (∀ i, i < fs.length → Rep (fs.getD i 0) (vs.getD i 0)) := hrep
  clear hc r hbw hrep
  go_enter Tryz.func51, Tryz.ntmps51
  go_wp2_with fail
  go_quiet (fail)
  clear hc0
  go_wp2_with fail
  go_loopw [7, 8, 9] (fun i j x wr => ∃ (k jj X : Nat), 1 ≤ k ∧ k ≤ fs.length ∧ i = .int .i64 k ∧ j = .int .i64 jj ∧ x = .iface 38 (.float .f64 X) ∧ Hid (X = fs.getD jj 0) ∧ Hid (First vs k jj) ∧ Drawn w wr)
    (fun i _ _ _ => fs.length - (intOf i).toNat)
  case atStart => exact ⟨1, 0, fs[0], by omega, by omega, by go_num, rfl, rfl, (by show _ = _; rw [getD_nat hpos]), First.one vs, by first | exact Drawn.refl w | exact (Drawn.refl w).more _⟩
  case round =>
    obtain ⟨k, jj, X, hk1, hk, rfl, rfl, rfl, hX, hm, hd⟩ := hrel
    by_cases hlt : k < fs.length
    · have hck : wr.cell? ⟨b, off + k, none⟩ = some (.iface 38 (.float .f64 fs[k])) := (hd.cell _).trans (HC.out k _ (anyF_get fs hlt))
      have hki : (k : Int) < (fs.length : Int) := by omega
      have e1 := getD_nat hlt
      have hjj := hm.out.1
      have hCC := fun (w : World) => compareRep_any (X := X) (Y := fs[k]) (x := vs.getD jj 0) (y := vs.getD k 0) (by rw [hX.out]; exact HR.out jj (by omega)) (by rw [← e1]; exact HR.out k hlt) w
      have new : vs.getD k 0 < vs.getD jj 0 → Hid (fs[k] = fs.getD k 0) ∧ Hid (First vs (k + 1) k) := fun h => ⟨e1.symm, hm.out.step_new h⟩
      have old : vs.getD jj 0 ≤ vs.getD k 0 → Hid (First vs (k + 1) jj) := fun h => hm.out.step_old h
      clear e1
      generalize vs.getD jj 0 = x at *
      generalize vs.getD k 0 = y at *
      generalize fs[k] = Z at hck new hCC
      rcases (show y < x ∨ x < y ∨ x = y by omega) with h | h | h
      · rw [cmpI_gt h] at hCC
        obtain ⟨p1, p2⟩ := new h
        clear new old
        go_wp2_with (go_at_call 27; refine (hCC _).mono ?_; rintro e w' ⟨rfl, rfl⟩)
        go_quiet (fail)
        go_wp2_with fail
        go_roundw
        case rel => exact ⟨k + 1, k, Z, by omega, by omega, by go_num, by first | rfl | go_num, rfl, p1, p2, by first | exact hd | exact hd.more _⟩
        case measure => simp [intOf]; omega
      · rw [cmpI_lt h] at hCC
        have p := old (by omega)
        clear new old
        go_wp2_with (go_at_call 27; refine (hCC _).mono ?_; rintro e w' ⟨rfl, rfl⟩)
        go_roundw
        case rel => exact ⟨k + 1, jj, X, by omega, by omega, by go_num, rfl, rfl, hX, p, hd⟩
        case measure => simp [intOf]; omega
      · rw [cmpI_eq h] at hCC
        have p := old (by omega)
        clear new old
        go_wp2_with (go_at_call 27; refine (hCC _).mono ?_; rintro e w' ⟨rfl, rfl⟩)
        go_roundw
        case rel => exact ⟨k + 1, jj, X, by omega, by omega, by go_num, rfl, rfl, hX, p, hd⟩
        case measure => simp [intOf]; omega
    · obtain rfl : k = fs.length := by omega
      have hjx := hm.out.1
      have hcj : wr.cell? ⟨b, off + jj, none⟩ = some (.iface 38 (.float .f64 fs[jj])) := (hd.cell _).trans (HC.out jj _ (anyF_get fs hjx))
      have hji : (jj : Int) < (fs.length : Int) := by omega
      have hz : fs.getD jj 0 = fs[jj] := getD_nat hjx
      rw [← hz] at hcj
      clear hz
      go_wp2_with fail
      go_ret
      exact ⟨jj, hm.out, by first | rfl | (rw [getD_nat hjx]; rfl), hd⟩
end Go.Proofs.YtepebjabacgeoaaGreatDoor
