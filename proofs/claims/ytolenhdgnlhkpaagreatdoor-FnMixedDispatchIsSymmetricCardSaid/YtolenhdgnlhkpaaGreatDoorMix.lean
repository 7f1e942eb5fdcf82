/-
  Sum and Compare of an int and any float, in both orders; the law FnMixedDispatchIsSymmetric (folder n001_74).
-/
import Derived.Test.YtolenhdgnlhkpaaGreatDoorCmp
import Derived.Test.YtolenhdgnlhkpaaGreatDoorFl
namespace Go.Proofs.YtolenhdgnlhkpaaGreatDoor
open Go Go.RowKit

/-- The law's end: true; what lay there before is as it was. -/
def Holds (w : World) (e : Ending) (w' : World) : Prop := e = .returned (.bool true) ∧ Below w.heap.size w w'

def ordI : Ordering → Int
  | .lt => -1
  | .eq => 0
  | .gt => 1
theorem ordI_swap (o : Ordering) : ordI o = 0 - ordI o.swap := by cases o <;> rfl

/-- z is what the sum gives: the bits of the nearest float, or some NaN. -/
def SumTo (x y z : Nat) : Prop := Ieee.double.add x y = some z ∨ (Ieee.double.add x y = none ∧ NaNs z)
theorem SumTo.comm {x y z : Nat} (h : SumTo x y z) : SumTo y x z := by
  unfold SumTo
  rw [add_comm_bits]
  exact h
/-- Two floats that zzSameFloat takes for the same. -/
def Alike (x z : Nat) : Prop := (x = z ∧ Sure x) ∨ (NaNs x ∧ NaNs z)
theorem SumTo.alike {x y z u : Nat} (h : SumTo x y z) (g : SumTo x y u) : Alike z u := by
  rcases h with h | ⟨h, hn⟩ <;> rcases g with g | ⟨g, gn⟩
  · left
    rw [h] at g
    exact ⟨Option.some.inj g, add_sure h⟩
  · rw [h] at g; cases g
  · rw [h] at g; cases g
  · exact .inr ⟨hn, gn⟩
theorem sum_run (P : Program) (w : World) (t : TypeId) (x y : Nat) : ∃ z n, SumTo x y z ∧ (binOp .add t (.float .f64 x) (.float .f64 y)).run P w = .ok (.float .f64 z) (w.drewN n) := by
  cases h : Ieee.double.add x y with
  | some z => exact ⟨z, 0, .inl h, run_float_arith w .add t .f64 x y z h⟩
  | none =>
    obtain ⟨n, hn, hr⟩ := run_sum_nan (P := P) w t x y h
    exact ⟨n, 1, .inr ⟨h, hn⟩, hr⟩

theorem isNaN_any {X : Nat} (h0 : Sure X) (w : World) : Calls Tryz.prog 39 #[.float .f64 X] w fun e w' => e = .returned (.bool false) ∧ w = w' := by
  have h : (FloatKind.format .f64).order X X = some .eq := sure_order h0
  clear h0
  go_enter Tryz.func39, Tryz.ntmps39
  go_wp2
  go_ret
  exact ⟨rfl, rfl⟩

theorem lt_any {X Y : Nat} {o : Ordering} (hx : Sure X) (h : (FloatKind.format .f64).order X Y = some o) (w : World) : Calls Tryz.prog 25 #[.float .f64 X, .float .f64 Y] w fun e w' => e = .returned (.bool (o == .lt)) ∧ w = w' := by
  have HN : Hid (∀ w : World, Calls Tryz.prog 39 #[.float .f64 X] w _) := fun w => isNaN_any hx w
  clear hx
  cases o with
  | lt =>
    go_enter Tryz.func25, Tryz.ntmps25
    go_wp2_with fail
    go_ret
    exact ⟨rfl, rfl⟩
  | eq =>
    go_enter Tryz.func25, Tryz.ntmps25
    go_wp2_with (go_at_call 39; refine (HN.out _).mono ?_; rintro e w' ⟨rfl, rfl⟩)
    go_ret
    exact ⟨rfl, rfl⟩
  | gt =>
    go_enter Tryz.func25, Tryz.ntmps25
    go_wp2_with (go_at_call 39; refine (HN.out _).mono ?_; rintro e w' ⟨rfl, rfl⟩)
    go_ret
    exact ⟨rfl, rfl⟩

theorem cmpFlt_any {X Y : Nat} {o : Ordering} (hx : Sure X) (h : (FloatKind.format .f64).order X Y = some o) (w : World) :
    Calls Tryz.prog 24 #[.float .f64 X, .float .f64 Y] w fun e w' => e = .returned (.int .i64 (ordI o)) ∧ w = w' := by
  have HL : Hid (∀ w : World, Calls Tryz.prog 25 #[.float .f64 X, .float .f64 Y] w _) := fun w => lt_any hx h w
  clear hx
  cases o with
  | lt =>
    go_enter Tryz.func24, Tryz.ntmps24
    go_wp2_with (go_at_call 25; refine (HL.out _).mono ?_; rintro e w' ⟨rfl, rfl⟩)
    go_ret
    exact ⟨rfl, rfl⟩
  | eq =>
    go_enter Tryz.func24, Tryz.ntmps24
    go_wp2_with (go_at_call 25; refine (HL.out _).mono ?_; rintro e w' ⟨rfl, rfl⟩)
    go_ret
    exact ⟨rfl, rfl⟩
  | gt =>
    go_enter Tryz.func24, Tryz.ntmps24
    go_wp2_with (go_at_call 25; refine (HL.out _).mono ?_; rintro e w' ⟨rfl, rfl⟩)
    go_ret
    exact ⟨rfl, rfl⟩

theorem q_i_flt (v : Value) (w : World) : (Instr.typeAssert (.iface 3 v) 20 22 true).run Tryz.prog w = .ok (.tuple #[.float .f64 0, .bool false]) w := by kernel_rfl
theorem q_f_flt (v : Value) (w : World) : (Instr.typeAssert (.iface 22 v) 20 22 true).run Tryz.prog w = .ok (.tuple #[v, .bool true]) w := by kernel_rfl
theorem q_f_int (v : Value) (w : World) : (Instr.typeAssert (.iface 22 v) 20 3 true).run Tryz.prog w = .ok (.tuple #[.int .i64 0, .bool false]) w := by kernel_rfl
theorem q_f_num (v : Value) (w : World) : (Instr.typeAssert (.iface 22 v) 20 63 true).run Tryz.prog w = .ok (.tuple #[.string ⟨#[]⟩, .bool false]) w := by kernel_rfl

set_option maxRecDepth 100000 in
set_option maxHeartbeats 1600000 in
theorem compareIF_any {a : Int} {Y : Nat} {o : Ordering} (hx : Sure (floatOfInt .f64 a)) (h : (FloatKind.format .f64).order (floatOfInt .f64 a) Y = some o) (w : World) :
    Calls Tryz.prog 10 #[.iface 3 (.int .i64 a), .iface 22 (.float .f64 Y)] w fun e w' => e = .returned (.int .i64 (ordI o)) ∧ w = w' := by
  have g1 := fun (v : Value) (w : World) => i_num v w
  have g2 := fun (v : Value) (w : World) => i_int v w
  have g3 := fun (v : Value) (w : World) => q_f_num v w
  have g4 := fun (v : Value) (w : World) => q_f_int v w
  have g5 := fun (v : Value) (w : World) => q_f_flt v w
  have HC : Hid (∀ w : World, Calls Tryz.prog 24 _ w _) := fun w => cmpFlt_any hx h w
  clear hx h
  go_enter Tryz.func10, Tryz.ntmps10
  go_wp2_with (first | (go_at_call 24; refine (HC.out _).mono ?_; rintro e w' ⟨rfl, rfl⟩) | go_in)
  go_ret
  exact ⟨rfl, rfl⟩
set_option maxRecDepth 100000 in
set_option maxHeartbeats 1600000 in
theorem compareFI_any {a : Int} {Y : Nat} {o : Ordering} (hx : Sure Y) (h : (FloatKind.format .f64).order Y (floatOfInt .f64 a) = some o) (w : World) :
    Calls Tryz.prog 10 #[.iface 22 (.float .f64 Y), .iface 3 (.int .i64 a)] w fun e w' => e = .returned (.int .i64 (ordI o)) ∧ w = w' := by
  have g1 := fun (v : Value) (w : World) => i_num v w
  have g2 := fun (v : Value) (w : World) => i_int v w
  have g3 := fun (v : Value) (w : World) => q_f_num v w
  have g4 := fun (v : Value) (w : World) => q_f_int v w
  have g5 := fun (v : Value) (w : World) => q_f_flt v w
  have HC : Hid (∀ w : World, Calls Tryz.prog 24 _ w _) := fun w => cmpFlt_any hx h w
  clear hx h
  go_enter Tryz.func10, Tryz.ntmps10
  go_wp2_with (first | (go_at_call 24; refine (HC.out _).mono ?_; rintro e w' ⟨rfl, rfl⟩) | go_in)
  go_ret
  exact ⟨rfl, rfl⟩
theorem zzIF_any {a : Int} {Y : Nat} {o : Ordering} (hx : Sure (floatOfInt .f64 a)) (h : (FloatKind.format .f64).order (floatOfInt .f64 a) Y = some o) (w : World) :
    Calls Tryz.prog 7 #[.int .i64 a, .float .f64 Y] w fun e w' => e = .returned (.int .i64 (ordI o)) ∧ w = w' := by
  have HC : Hid (∀ w : World, Calls Tryz.prog 10 _ w _) := fun w => compareIF_any hx h w
  have mk1 := fun (x : Value) (w : World) => run_makeInterface (P := Tryz.prog) w 3 x (by kernel_rfl)
  have mk2 := fun (x : Value) (w : World) => run_makeInterface (P := Tryz.prog) w 22 x (by kernel_rfl)
  clear hx h
  go_enter Tryz.func7, Tryz.ntmps7
  go_wp2_with (go_at_call 10; refine (HC.out _).mono ?_; rintro e w' ⟨rfl, rfl⟩)
  go_ret
  exact ⟨rfl, rfl⟩
theorem zzFI_any {a : Int} {Y : Nat} {o : Ordering} (hx : Sure Y) (h : (FloatKind.format .f64).order Y (floatOfInt .f64 a) = some o) (w : World) :
    Calls Tryz.prog 8 #[.float .f64 Y, .int .i64 a] w fun e w' => e = .returned (.int .i64 (ordI o)) ∧ w = w' := by
  have HC : Hid (∀ w : World, Calls Tryz.prog 10 _ w _) := fun w => compareFI_any hx h w
  have mk1 := fun (x : Value) (w : World) => run_makeInterface (P := Tryz.prog) w 3 x (by kernel_rfl)
  have mk2 := fun (x : Value) (w : World) => run_makeInterface (P := Tryz.prog) w 22 x (by kernel_rfl)
  clear hx h
  go_enter Tryz.func8, Tryz.ntmps8
  go_wp2_with (go_at_call 10; refine (HC.out _).mono ?_; rintro e w' ⟨rfl, rfl⟩)
  go_ret
  exact ⟨rfl, rfl⟩

/-! ### The sum -/
set_option maxRecDepth 100000 in
set_option maxHeartbeats 800000 in
theorem addFlt_any (X Y : Nat) (w : World) : Calls Tryz.prog 15 #[.float .f64 X, .float .f64 Y] w fun e w' => ∃ z, SumTo X Y z ∧ e = .returned (.iface 22 (.float .f64 z)) ∧ Drawn w w' := by
  obtain ⟨z, n, hz, hq⟩ := sum_run Tryz.prog w 22 X Y
  have HZ : Hid (SumTo X Y z) := hz
  clear hz
  have mk2 := fun (x : Value) (w : World) => run_makeInterface (P := Tryz.prog) w 22 x (by kernel_rfl)
  go_enter Tryz.func15, Tryz.ntmps15
  go_wp2_with fail
  go_ret
  exact ⟨z, HZ.out, rfl, ⟨n, rfl⟩⟩
set_option maxRecDepth 100000 in
set_option maxHeartbeats 1600000 in
theorem addIF_any (v : Value) (a : Int) (Y : Nat) (w : World) :
    Calls Tryz.prog 9 #[v, .iface 3 (.int .i64 a), .iface 22 (.float .f64 Y)] w fun e w' => ∃ z, SumTo (floatOfInt .f64 a) Y z ∧ e = .returned (.iface 22 (.float .f64 z)) ∧ Drawn w w' := by
  have g1 := fun (v : Value) (w : World) => i_num v w
  have g2 := fun (v : Value) (w : World) => i_int v w
  have g3 := fun (v : Value) (w : World) => q_f_num v w
  have g4 := fun (v : Value) (w : World) => q_f_int v w
  have g5 := fun (v : Value) (w : World) => q_f_flt v w
  have HC : Hid (∀ w : World, Calls Tryz.prog 15 _ w _) := fun w => addFlt_any (floatOfInt .f64 a) Y w
  go_enter Tryz.func9, Tryz.ntmps9
  go_wp2_with (first | (go_at_call 15; refine (HC.out _).mono ?_; rintro e w' ⟨z, hz, rfl, hd⟩; have HZ : Hid (SumTo (floatOfInt .f64 a) Y z) := hz; clear hz) | go_in)
  go_ret
  exact ⟨z, HZ.out, rfl, hd⟩
set_option maxRecDepth 100000 in
set_option maxHeartbeats 1600000 in
theorem addFI_any (v : Value) (a : Int) (Y : Nat) (w : World) :
    Calls Tryz.prog 9 #[v, .iface 22 (.float .f64 Y), .iface 3 (.int .i64 a)] w fun e w' => ∃ z, SumTo (floatOfInt .f64 a) Y z ∧ e = .returned (.iface 22 (.float .f64 z)) ∧ Drawn w w' := by
  have g1 := fun (v : Value) (w : World) => i_num v w
  have g2 := fun (v : Value) (w : World) => i_int v w
  have g3 := fun (v : Value) (w : World) => q_f_num v w
  have g4 := fun (v : Value) (w : World) => q_f_int v w
  have g5 := fun (v : Value) (w : World) => q_f_flt v w
  have HC : Hid (∀ w : World, Calls Tryz.prog 15 _ w _) := fun w => addFlt_any Y (floatOfInt .f64 a) w
  go_enter Tryz.func9, Tryz.ntmps9
  go_wp2_with (first | (go_at_call 15; refine (HC.out _).mono ?_; rintro e w' ⟨z, hz, rfl, hd⟩; have HZ : Hid (SumTo (floatOfInt .f64 a) Y z) := hz.comm; clear hz) | go_in)
  go_ret
  exact ⟨z, HZ.out, rfl, hd⟩
theorem zzAddIF_any (a : Int) (Y : Nat) (w : World) :
    Calls Tryz.prog 4 #[.int .i64 a, .float .f64 Y] w fun e w' => ∃ z, SumTo (floatOfInt .f64 a) Y z ∧ e = .returned (.tuple #[.float .f64 z, .bool true]) ∧ Drawn w w' := by
  have HC : Hid (∀ (v : Value) (w : World), Calls Tryz.prog 9 _ w _) := fun v w => addIF_any v a Y w
  have g5 := fun (v : Value) (w : World) => q_f_flt v w
  have mk1 := fun (x : Value) (w : World) => run_makeInterface (P := Tryz.prog) w 3 x (by kernel_rfl)
  have mk2 := fun (x : Value) (w : World) => run_makeInterface (P := Tryz.prog) w 22 x (by kernel_rfl)
  go_enter Tryz.func4, Tryz.ntmps4
  go_wp2_with (go_at_call 9; refine (HC.out _ _).mono ?_; rintro e w' ⟨z, hz, rfl, hd⟩; have HZ : Hid (SumTo (floatOfInt .f64 a) Y z) := hz; clear hz)
  go_ret2
  exact ⟨z, HZ.out, rfl, hd⟩
theorem zzAddFI_any (a : Int) (Y : Nat) (w : World) :
    Calls Tryz.prog 5 #[.float .f64 Y, .int .i64 a] w fun e w' => ∃ z, SumTo (floatOfInt .f64 a) Y z ∧ e = .returned (.tuple #[.float .f64 z, .bool true]) ∧ Drawn w w' := by
  have HC : Hid (∀ (v : Value) (w : World), Calls Tryz.prog 9 _ w _) := fun v w => addFI_any v a Y w
  have g5 := fun (v : Value) (w : World) => q_f_flt v w
  have mk1 := fun (x : Value) (w : World) => run_makeInterface (P := Tryz.prog) w 3 x (by kernel_rfl)
  have mk2 := fun (x : Value) (w : World) => run_makeInterface (P := Tryz.prog) w 22 x (by kernel_rfl)
  go_enter Tryz.func5, Tryz.ntmps5
  go_wp2_with (go_at_call 9; refine (HC.out _ _).mono ?_; rintro e w' ⟨z, hz, rfl, hd⟩; have HZ : Hid (SumTo (floatOfInt .f64 a) Y z) := hz; clear hz)
  go_ret2
  exact ⟨z, HZ.out, rfl, hd⟩

theorem ret_bool {a b : Bool} (h : a = b) : Ending.returned (.bool a) = .returned (.bool b) := by rw [h]
/-! ### The law's own comparison -/
set_option maxRecDepth 100000 in
theorem same_any {x z : Nat} (h : Alike x z) (w : World) : Calls Tryz.prog 6 #[.float .f64 x, .float .f64 z] w fun e w' => e = .returned (.bool true) ∧ w = w' := by
  rcases h with ⟨rfl, h⟩ | ⟨h, g⟩
  · have h1 : (FloatKind.format .f64).order x x = some .eq := sure_order h
    obtain ⟨o, h2⟩ : ∃ o, (FloatKind.format .f64).order x 0 = some o := sure_some h (read_word false 0 (by decide))
    cases o with
    | lt =>
      clear h
      go_enter Tryz.func6, Tryz.ntmps6
      go_wp2_with fail
      go_ret
      exact ⟨rfl, rfl⟩
    | gt =>
      clear h
      go_enter Tryz.func6, Tryz.ntmps6
      go_wp2_with fail
      go_ret
      exact ⟨rfl, rfl⟩
    | eq =>
      obtain ⟨q, h3, o2, h4⟩ := one_over h2
      have hq := fun (w : World) => run_float_arith (P := Tryz.prog) w .quo 22 .f64 4607182418800017408 x q h3
      have h5 : (FloatKind.format .f64).order q 0 = some o2 := h4
      clear h h3 h4
      cases o2 <;> (
        go_enter Tryz.func6, Tryz.ntmps6
        go_wp2_with fail
        go_ret
        exact ⟨rfl, rfl⟩)
  · have h1 : (FloatKind.format .f64).order x x = none := nan_order h x
    have h2 : (FloatKind.format .f64).order z z = none := nan_order g z
    clear h g
    go_enter Tryz.func6, Tryz.ntmps6
    go_wp2_with fail
    go_ret
    exact ⟨rfl, rfl⟩

set_option maxRecDepth 100000 in
set_option maxHeartbeats 1600000 in
theorem law_FnMixedDispatchIsSymmetric (a : Int) (Y : Nat) (w : World) : Calls Tryz.prog 3 #[.int .i64 a, .float .f64 Y] w (Holds w) := by
  obtain ⟨X, hX⟩ : ∃ X, X = floatOfInt .f64 a := ⟨_, rfl⟩
  have hXs : Sure (floatOfInt .f64 a) := read_write (d := .number _ _ _) rfl
  go_enter Tryz.func3, Tryz.ntmps3
  go_wp2_with fail
  refine (zzAddIF_any a Y w).mono ?_
  rintro e w1 ⟨x, hx, rfl, hd1⟩
  have HX : Hid (SumTo (floatOfInt .f64 a) Y x) := hx
  clear hx
  go_wp2_with fail
  refine (zzAddFI_any a Y w1).mono ?_
  rintro e w2 ⟨y, hy, rfl, hd2⟩
  have HY : Hid (SumTo (floatOfInt .f64 a) Y y) := hy
  clear hy
  obtain ⟨z, n, hz, hq⟩ := sum_run Tryz.prog w2 22 (floatOfInt .f64 a) Y
  have hxz := HX.out.alike hz
  have hyz := HY.out.alike hz
  have hd3 : Drawn w (w2.drewN n) := (hd1.trans hd2).more n
  generalize w2.drewN n = w3 at *
  have HXZ : Hid (Alike x z) := hxz
  have HYZ : Hid (Alike y z) := hyz
  clear hz hd1 hd2 HX HY hX hxz hyz
  go_wp2_with fail
  refine (same_any HXZ.out w3).mono ?_
  rintro e w4 ⟨rfl, rfl⟩
  go_wp2_with fail
  refine (same_any HYZ.out w3).mono ?_
  rintro e w4 ⟨rfl, rfl⟩
  rcases sure_or Y with h | h
  · have h1 : (FloatKind.format .f64).order Y Y = some .eq := sure_order h
    obtain ⟨o, h2⟩ := sure_some hXs h
    have h3 := order_flip (floatOfInt .f64 a) Y
    rw [h2] at h3
    have hA := zzIF_any (a := a) (Y := Y) (o := o) hXs h2 w3
    have hB := zzFI_any (a := a) (Y := Y) (o := o.swap) h h3 w3
    have HA : Hid (Calls Tryz.prog 7 _ w3 _) := hA
    have HB : Hid (Calls Tryz.prog 8 _ w3 _) := hB
    clear hA hB h2 h3 h hXs
    go_wp2_with fail
    refine HA.out.mono ?_
    rintro e w4 ⟨rfl, rfl⟩
    go_wp2_with fail
    refine HB.out.mono ?_
    rintro e w4 ⟨rfl, rfl⟩
    cases o <;> (go_wp2_with fail; go_ret; exact ⟨ret_bool (by decide +kernel), hd3.below _⟩)
  · have h1 : (FloatKind.format .f64).order Y Y = none := nan_order h Y
    clear h hXs
    go_wp2_with fail
    go_ret
    exact ⟨rfl, hd3.below _⟩
end Go.Proofs.YtolenhdgnlhkpaaGreatDoor
