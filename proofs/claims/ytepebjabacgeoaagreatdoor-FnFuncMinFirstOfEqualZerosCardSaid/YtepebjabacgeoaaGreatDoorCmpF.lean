/-
  Compare of floats that are numbers, of an int and a float (by their exact worth).
-/
import Derived.Test.YtepebjabacgeoaaGreatDoorMixed
namespace Go.Proofs.YtepebjabacgeoaaGreatDoor
open Go Go.RowKit

/-- The order of two numbers, as the walk meets it. -/
theorem ord_any (x y b : Int) (hx : x.natAbs < 9007199254740992) (hy : y.natAbs < 9007199254740992) (h1 : -1022 ≤ b) (h2 : b ≤ 900) : (FloatKind.format .f64).order (F x b) (F y b) = some (compare x y) := F_order x y b hx hy h1 h2

theorem cmp_lt {x y : Int} (h : x < y) : compare x y = .lt := Int.compare_eq_lt.2 h
theorem cmp_gt {x y : Int} (h : y < x) : compare x y = .gt := Int.compare_eq_gt.2 h
theorem cmp_eq (x : Int) : compare x x = .eq := Int.compare_eq_eq.2 rfl

/-- A number that is kept exactly. -/
def Fits (x : Int) : Prop := x.natAbs < 9007199254740992

theorem isNaN_any (x b : Int) (hx : Fits x) (h1 : -1022 ≤ b) (h2 : b ≤ 900) (w : World) : Calls Tryz.prog 56 #[.float .f64 (F x b)] w fun e w' => e = .returned (.bool false) ∧ w = w' := by
  have h := ord_any x x b hx hx h1 h2
  rw [cmp_eq] at h
  generalize F x b = X at *
  go_enter Tryz.func56, Tryz.ntmps56
  go_wp2
  go_ret
  exact ⟨rfl, rfl⟩

theorem lt_any (x y b : Int) (hx : Fits x) (hy : Fits y) (h1 : -1022 ≤ b) (h2 : b ≤ 900) (w : World) : Calls Tryz.prog 40 #[.float .f64 (F x b), .float .f64 (F y b)] w fun e w' => e = .returned (.bool (decide (x < y))) ∧ w = w' := by
  have h := ord_any x y b hx hy h1 h2
  have hN := isNaN_any x b hx h1 h2
  generalize F x b = X at *
  generalize F y b = Y at *
  have HN : Hid (∀ w : World, Calls Tryz.prog 56 #[.float .f64 X] w _) := hN
  clear hN
  by_cases hlt : x < y
  · rw [cmp_lt hlt] at h
    rw [decide_eq_true hlt]
    go_enter Tryz.func40, Tryz.ntmps40
    go_wp2_with fail
    go_ret
    exact ⟨rfl, rfl⟩
  · rw [decide_eq_false hlt]
    rcases (show y < x ∨ x = y by omega) with e | e
    · rw [cmp_gt e] at h
      go_enter Tryz.func40, Tryz.ntmps40
      go_wp2_with (go_at_call 56; refine (HN.out _).mono ?_; rintro e w' ⟨rfl, rfl⟩)
      go_ret
      exact ⟨rfl, rfl⟩
    · subst e
      rw [cmp_eq] at h
      go_enter Tryz.func40, Tryz.ntmps40
      go_wp2_with (go_at_call 56; refine (HN.out _).mono ?_; rintro e w' ⟨rfl, rfl⟩)
      go_ret
      exact ⟨rfl, rfl⟩

theorem cmpFlt_any (x y b : Int) (hx : Fits x) (hy : Fits y) (h1 : -1022 ≤ b) (h2 : b ≤ 900) (w : World) :
    Calls Tryz.prog 39 #[.float .f64 (F x b), .float .f64 (F y b)] w fun e w' => e = .returned (.int .i64 (cmpI x y)) ∧ w = w' := by
  have h := ord_any x y b hx hy h1 h2
  have hL := lt_any x y b hx hy h1 h2
  generalize F x b = X at *
  generalize F y b = Y at *
  rcases (show x < y ∨ y < x ∨ x = y by omega) with e | e | e
  · rw [decide_eq_true e] at hL
    have HL : Hid (∀ w : World, Calls Tryz.prog 40 #[.float .f64 X, .float .f64 Y] w _) := hL
    clear hL h
    go_enter Tryz.func39, Tryz.ntmps39
    go_wp2_with (go_at_call 40; refine (HL.out _).mono ?_; rintro e w' ⟨rfl, rfl⟩)
    go_ret
    exact ⟨ret_int (cmpI_lt e).symm, rfl⟩
  · rw [decide_eq_false (show ¬ x < y by omega)] at hL
    rw [cmp_gt e] at h
    have HL : Hid (∀ w : World, Calls Tryz.prog 40 #[.float .f64 X, .float .f64 Y] w _) := hL
    clear hL
    go_enter Tryz.func39, Tryz.ntmps39
    go_wp2_with (go_at_call 40; refine (HL.out _).mono ?_; rintro e w' ⟨rfl, rfl⟩)
    go_ret
    exact ⟨ret_int (cmpI_gt e).symm, rfl⟩
  · subst e
    rw [decide_eq_false (show ¬ x < x by omega)] at hL
    rw [cmp_eq] at h
    have HL : Hid (∀ w : World, Calls Tryz.prog 40 #[.float .f64 X, .float .f64 Y] w _) := hL
    clear hL
    go_enter Tryz.func39, Tryz.ntmps39
    go_wp2_with (go_at_call 40; refine (HL.out _).mono ?_; rintro e w' ⟨rfl, rfl⟩)
    go_ret
    exact ⟨ret_int (cmpI_eq rfl).symm, rfl⟩

theorem q_i_flt (v : Value) (w : World) : (Instr.typeAssert (.iface 3 v) 20 38 true).run Tryz.prog w = .ok (.tuple #[.float .f64 0, .bool false]) w := by kernel_rfl
theorem q_f_flt (v : Value) (w : World) : (Instr.typeAssert (.iface 38 v) 20 38 true).run Tryz.prog w = .ok (.tuple #[v, .bool true]) w := by kernel_rfl
theorem q_f_int (v : Value) (w : World) : (Instr.typeAssert (.iface 38 v) 20 3 true).run Tryz.prog w = .ok (.tuple #[.int .i64 0, .bool false]) w := by kernel_rfl
theorem q_f_num (v : Value) (w : World) : (Instr.typeAssert (.iface 38 v) 20 85 true).run Tryz.prog w = .ok (.tuple #[.string ⟨#[]⟩, .bool false]) w := by kernel_rfl

set_option maxRecDepth 100000 in
set_option maxHeartbeats 1600000 in
/-- Compare of an int a and a float that is worth y halves (or y * 2^b). -/
theorem compareIF_any (a x y b : Int) (ha : F a 0 = F x b) (hx : Fits x) (hy : Fits y) (h1 : -1022 ≤ b) (h2 : b ≤ 900) (w : World) :
    Calls Tryz.prog 27 #[.iface 3 (.int .i64 a), .iface 38 (.float .f64 (F y b))] w fun e w' => e = .returned (.int .i64 (cmpI x y)) ∧ w = w' := by
  have g1 := fun (v : Value) (w : World) => i_num v w
  have g2 := fun (v : Value) (w : World) => i_int v w
  have g3 := fun (v : Value) (w : World) => q_f_num v w
  have g4 := fun (v : Value) (w : World) => q_f_int v w
  have g5 := fun (v : Value) (w : World) => q_f_flt v w
  have hC := cmpFlt_any x y b hx hy h1 h2
  rw [← ha, ← F_ofInt] at hC
  have HC : Hid (∀ w : World, Calls Tryz.prog 39 _ w _) := hC
  clear hC ha
  generalize F y b = Y at *
  go_enter Tryz.func27, Tryz.ntmps27
  go_wp2_with (first | (go_at_call 39; refine (HC.out _).mono ?_; rintro e w' ⟨rfl, rfl⟩) | go_in)
  go_ret
  exact ⟨rfl, rfl⟩

set_option maxRecDepth 100000 in
set_option maxHeartbeats 1600000 in
theorem compareFF_any (x y b : Int) (hx : Fits x) (hy : Fits y) (h1 : -1022 ≤ b) (h2 : b ≤ 900) (w : World) :
    Calls Tryz.prog 27 #[.iface 38 (.float .f64 (F x b)), .iface 38 (.float .f64 (F y b))] w fun e w' => e = .returned (.int .i64 (cmpI x y)) ∧ w = w' := by
  have g3 := fun (v : Value) (w : World) => q_f_num v w
  have g4 := fun (v : Value) (w : World) => q_f_int v w
  have g5 := fun (v : Value) (w : World) => q_f_flt v w
  have hC := cmpFlt_any x y b hx hy h1 h2
  have HC : Hid (∀ w : World, Calls Tryz.prog 39 _ w _) := hC
  clear hC
  generalize F y b = Y at *
  generalize F x b = X at *
  go_enter Tryz.func27, Tryz.ntmps27
  go_wp2_with (first | (go_at_call 39; refine (HC.out _).mono ?_; rintro e w' ⟨rfl, rfl⟩) | go_in)
  go_ret
  exact ⟨rfl, rfl⟩
end Go.Proofs.YtepebjabacgeoaaGreatDoor
