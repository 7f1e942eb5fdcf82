/-
  range over quarters: floats that count exactly; the law's walk (folder n001_91).
-/
import Derived.Test.YtepebjabacgeoaaGreatDoorRangeLaw
import Derived.Test.YtepebjabacgeoaaGreatDoorCmpF
namespace Go.Proofs.YtepebjabacgeoaaGreatDoor
open Go Go.RowKit

theorem read_four : Ieee.double.read 4616189618054758400 = .number false 4503599627370496 (-50) := by decide +kernel

set_option maxRecDepth 100000 in
/-- A quarter of a whole number is exact. -/
theorem F_div4 (z : Int) (hz : z.natAbs < 9007199254740992) : floatBits .quo .f64 (F z 0) 4616189618054758400 = some (F z (-2)) := by
  show (Ieee.Datum.quotient 54 (Ieee.double.read (F z 0)) (Ieee.double.read 4616189618054758400)).map Ieee.double.write = _
  rw [read_four]
  rcases Nat.eq_zero_or_pos z.natAbs with h | h
  · obtain rfl : z = 0 := by omega
    have e : Ieee.double.read (F 0 0) = .number false 0 (-1074) := by
      unfold F
      rw [show (0 : Int).natAbs = 0 from rfl, write_zero]
      exact read_zero _
    rw [e]
    have e2 : (4503599627370496 : Nat) ≠ 0 := by omega
    simp only [Ieee.Datum.quotient, e2, if_false, Nat.zero_shiftLeft, Nat.zero_div, Nat.zero_mod, Nat.mul_zero, bne_self_eq_false, Bool.toNat_false, Nat.add_zero, Option.map_some]
    rw [write_zero]
    unfold F
    rw [show (0 : Int).natAbs = 0 from rfl, write_zero]
    rfl
  · have hL := log2_lt53 hz
    have hr := read_write (decide (z < 0)) z.natAbs 0 h hL (by omega) (by omega)
    have hlog := log2_mul_pow h (52 - z.natAbs.log2)
    obtain ⟨L, hLL⟩ : ∃ L, L = z.natAbs.log2 := ⟨_, rfl⟩
    rw [← hLL] at hr hL hlog
    obtain ⟨K, hK⟩ : ∃ K, K = z.natAbs * 2 ^ (52 - L) := ⟨_, rfl⟩
    rw [← hK] at hr hlog
    have hlk : K.log2 = 52 := by omega
    show (Ieee.Datum.quotient 54 (Ieee.double.read (Ieee.double.write (.number (decide (z < 0)) z.natAbs 0))) _).map Ieee.double.write = _
    rw [hr]
    have e2 : (4503599627370496 : Nat) ≠ 0 := by omega
    have e3 : (4503599627370496 : Nat).log2 = 52 := by decide +kernel
    have e4 : K <<< (54 + 52 - 52) = K * 18014398509481984 := by rw [Nat.shiftLeft_eq]
    have e5 : K * 18014398509481984 / 4503599627370496 = K * 4 := by omega
    have e6 : K * 18014398509481984 % 4503599627370496 = 0 := by omega
    simp only [Ieee.Datum.quotient, e2, if_false, e3, hlk, e4, e5, e6, bne_self_eq_false, Bool.toNat_false, Nat.add_zero, Bool.xor_false, Option.map_some, Option.some.injEq]
    refine F_write _ _ _ z (-2) (by omega) ?_ (by omega) hz (by omega)
    have ep : ((0 : Int) + (L : Int) - 52 - -50 - ((54 + 52 - 52 : Nat) : Int) - 1 + 1074).toNat = L + 1017 := by omega
    rw [ep]
    obtain ⟨E, hE⟩ : ∃ E, E = ((-2 : Int) + 1074).toNat := ⟨_, rfl⟩
    have hE2 : E = (52 - L) + 3 + (L + 1017) := by omega
    rw [← hE]
    have em : 2 * (K * 4) * 2 ^ (L + 1017) = z.natAbs * 2 ^ E := by
      rw [hE2, Nat.pow_add 2 (52 - L + 3) (L + 1017), Nat.pow_add 2 (52 - L) 3, hK]
      generalize 2 ^ (52 - L) = P
      generalize 2 ^ (L + 1017) = Q
      have e7 : 2 * (z.natAbs * P * 4) = z.natAbs * P * 8 := by omega
      rw [e7, show (2 : Nat) ^ 3 = 8 from rfl]
      simp only [Nat.mul_assoc]
    clear hE hE2 ep
    by_cases hn : z < 0
    · rw [decide_eq_true hn, signed_neg, em]
      push_cast
      rw [show (z.natAbs : Int) = -z by omega, Int.neg_mul, Int.neg_neg]
    · rw [decide_eq_false hn, signed_pos, em]
      push_cast
      rw [show (z.natAbs : Int) = z by omega]

theorem F_zero (b c : Int) : F 0 b = F 0 c := by
  unfold F
  show Ieee.double.write (.number _ 0 _) = Ieee.double.write (.number _ 0 _)
  rw [write_zero, write_zero]

/-- Floats as values. -/
def fltV (xs : List Nat) : List Value := xs.map fun x => .float .f64 x
theorem fltV_get (xs : List Nat) {k : Nat} (h : k < xs.length) : (fltV xs)[k]? = some (.float .f64 xs[k]) := by simp [fltV, h]
theorem fltV_len (xs : List Nat) : (fltV xs).length = xs.length := by simp [fltV]
def anyF (xs : List Nat) : List Value := xs.map fun x => .iface 38 (.float .f64 x)
theorem anyF_get (xs : List Nat) {k : Nat} (h : k < xs.length) : (anyF xs)[k]? = some (.iface 38 (.float .f64 xs[k])) := by simp [anyF, h]
theorem anyF_len (xs : List Nat) : (anyF xs).length = xs.length := by simp [anyF]

set_option maxRecDepth 100000 in
set_option maxHeartbeats 400000 in
theorem floats_any (a : Option Addr) (cap : Nat) (xs : List Nat) (w : World) (hl : xs.length ≤ 1099511627776) (hrow : Row w a (fltV xs)) :
    Calls Tryz.prog 21 #[.slice a xs.length cap] w (MadeRow w 20 (anyF xs)) := by
  obtain ⟨i0, hi, hz0, hz1, hz2⟩ := info_parts Tryz.infoAny
  have mk := fun (x : Value) (w : World) => run_makeInterface (P := Tryz.prog) w 38 x (by kernel_rfl)
  go_enter Tryz.func21, Tryz.ntmps21
  go_wp2_with (at_make; refine wpList_make_full _ rfl _ _ 26 rfl w.heap.size 20 i0 .nilIface 1 Tryz.underlying26 hi hz0 hz1 _ _ _ _ xs.length rfl rfl rfl rfl ?c1 ?c2 ?c3 ?_)
  case c1 => rw [hz2]; omega
  case c2 => unfold maxLen; omega
  case c3 => omega
  intro w1 hown hgrow
  have hb : Below w.heap.size w w1 := (Below.refl _ _).grown hgrow (Nat.le_refl _) (by intro k hk; cases hk)
  have hown' : w1.ownsRow w.heap.size 20 1 (.slice (some ⟨w.heap.size, 0, none⟩) xs.length xs.length) xs.length (filled (anyF xs) .nilIface 0) := by
    rw [filled_zero, anyF_len]
    simpa [Value.cells, toList_madeCells_one] using hown
  clear hown hgrow
  go_wp2
  go_loopw [11] (fun i wr => ∃ k : Nat, k ≤ xs.length ∧ i = .int .i64 k ∧ wr.ownsRow w.heap.size 20 1 (.slice (some ⟨w.heap.size, 0, none⟩) xs.length xs.length) xs.length (filled (anyF xs) .nilIface k) ∧ Below w.heap.size w wr)
    (fun i _ => xs.length - (intOf i).toNat)
  case atStart => exact ⟨0, by omega, rfl, hown', hb⟩
  case round =>
    clear hown' hb
    obtain ⟨k, hk, rfl, hown, hb⟩ := hrel
    by_cases hlt : k < xs.length
    · obtain ⟨b, off, rfl, hbw, hc⟩ := hrow.at (k := k) (by rw [fltV_len]; exact hlt)
      have hck : wr.cell? ⟨b, off + k, none⟩ = some (.float .f64 xs[k]) := (hb.cell (p := ⟨b, off + k, none⟩) hbw).trans (hc k _ (fltV_get xs hlt))
      have hc2 : wr.cell? ⟨w.heap.size, k, none⟩ = some .nilIface := by rw [hown.cellAt k (by omega)]; exact filled_at _ _ _ (by rw [anyF_len]; exact hlt)
      have hf2 := hown.frozenAt k
      obtain ⟨R1, R2⟩ := fill_step hown hb (anyF_get xs hlt)
      clear hc hown hb
      go_wp2
      go_roundw
      case rel => exact ⟨k + 1, by omega, by go_num, R1, R2⟩
      case measure => simp [intOf]; omega
    · go_wp2
      go_ret
      have hk' : k = xs.length := by omega
      subst hk'
      have e := filled_all (anyF xs) .nilIface
      rw [anyF_len] at e
      rw [e] at hown
      exact ⟨some ⟨w.heap.size, 0, none⟩, xs.length, xs.length, (anyF_len xs).symm, rfl, hown, hb, fun h => by cases h⟩


set_option maxRecDepth 100000 in
set_option maxHeartbeats 1600000 in
/-- Compare of a float that is worth x quarters and the int 0. -/
theorem compareF0_any (x b : Int) (hx : Fits x) (h1 : -1022 ≤ b) (h2 : b ≤ 900) (w : World) :
    Calls Tryz.prog 27 #[.iface 38 (.float .f64 (F x b)), .iface 3 (.int .i64 0)] w fun e w' => e = .returned (.int .i64 (cmpI x 0)) ∧ w = w' := by
  have g1 := fun (v : Value) (w : World) => i_num v w
  have g2 := fun (v : Value) (w : World) => i_int v w
  have g3 := fun (v : Value) (w : World) => q_f_num v w
  have g4 := fun (v : Value) (w : World) => q_f_int v w
  have g5 := fun (v : Value) (w : World) => q_f_flt v w
  have hC := cmpFlt_any x 0 b hx (by unfold Fits; decide) h1 h2
  rw [F_zero b 0, ← F_ofInt] at hC
  have HC : Hid (∀ w : World, Calls Tryz.prog 39 _ w _) := hC
  clear hC
  generalize F x b = X at *
  go_enter Tryz.func27, Tryz.ntmps27
  go_wp2_with (first | (go_at_call 39; refine (HC.out _).mono ?_; rintro e w' ⟨rfl, rfl⟩) | go_in)
  go_ret
  exact ⟨rfl, rfl⟩

theorem addFlt_any (x y b : Int) (hx : Fits x) (hy : Fits y) (hxy : Fits (x + y)) (h1 : -1022 ≤ b) (h2 : b ≤ 900) (w : World) :
    Calls Tryz.prog 63 #[.float .f64 (F x b), .float .f64 (F y b)] w fun e w' => e = .returned (.iface 38 (.float .f64 (F (x + y) b))) ∧ w = w' := by
  have mk := fun (x : Value) (w : World) => run_makeInterface (P := Tryz.prog) w 38 x (by kernel_rfl)
  have hs := fun (w : World) => run_float_arith (P := Tryz.prog) w .add 38 .f64 _ _ _ (F_add x y b hx hy hxy h1 h2)
  generalize F x b = X at *
  generalize F y b = Y at *
  generalize F (x + y) b = Z at *
  go_enter Tryz.func63, Tryz.ntmps63
  go_wp2
  go_ret
  exact ⟨rfl, rfl⟩

set_option maxRecDepth 100000 in
set_option maxHeartbeats 1600000 in
theorem opAddF_any (x y b : Int) (hx : Fits x) (hy : Fits y) (hxy : Fits (x + y)) (h1 : -1022 ≤ b) (h2 : b ≤ 900) (w : World) :
    Calls Tryz.prog 50 #[.nilIface, .iface 38 (.float .f64 (F x b)), .iface 38 (.float .f64 (F y b))] w fun e w' => e = .returned (.iface 38 (.float .f64 (F (x + y) b))) ∧ w = w' := by
  have g3 := fun (v : Value) (w : World) => q_f_num v w
  have g4 := fun (v : Value) (w : World) => q_f_int v w
  have g5 := fun (v : Value) (w : World) => q_f_flt v w
  have hC := addFlt_any x y b hx hy hxy h1 h2
  have HC : Hid (∀ w : World, Calls Tryz.prog 63 _ w _) := hC
  clear hC
  generalize F x b = X at *
  generalize F y b = Y at *
  generalize F (x + y) b = Z at *
  go_enter Tryz.func50, Tryz.ntmps50
  go_wp2_with (first | (go_at_call 63; refine (HC.out _).mono ?_; rintro e w' ⟨rfl, rfl⟩) | go_in)
  go_ret
  exact ⟨rfl, rfl⟩
end Go.Proofs.YtepebjabacgeoaaGreatDoor
