/-
  range over ints: the iterator's Next, the sum of two ints, funcRange (folder n001_91).
-/
import Derived.Test.YtepebjabacgeoaaGreatDoorMixed
import Derived.StillTailTactics
namespace Go.Proofs.YtepebjabacgeoaaGreatDoor
open Go Go.RowKit

theorem addInt_any (a b : Int) (w : World) (ha : -4611686018427387904 ≤ a ∧ a ≤ 4611686018427387904) (hb : -4611686018427387904 ≤ b ∧ b < 4611686018427387904) :
    Calls Tryz.prog 61 #[.int .i64 a, .int .i64 b] w fun e w' => e = .returned (.iface 3 (.int .i64 (a + b))) ∧ w = w' := by
  have mk := fun (x : Value) (w : World) => run_makeInterface (P := Tryz.prog) w 3 x (by kernel_rfl)
  by_cases h : 0 ≤ b
  · have h1 : a ≤ a + b := by omega
    go_enter Tryz.func61, Tryz.ntmps61
    go_wp2
    go_ret
    exact ⟨rfl, rfl⟩
  · have h1 : ¬ a ≤ a + b := by omega
    go_enter Tryz.func61, Tryz.ntmps61
    go_wp2
    go_ret
    exact ⟨rfl, rfl⟩

set_option maxRecDepth 100000 in
set_option maxHeartbeats 1600000 in
theorem opAdd_any (a b : Int) (w : World) (ha : -4611686018427387904 ≤ a ∧ a ≤ 4611686018427387904) (hb : -4611686018427387904 ≤ b ∧ b < 4611686018427387904) :
    Calls Tryz.prog 50 #[.nilIface, .iface 3 (.int .i64 a), .iface 3 (.int .i64 b)] w fun e w' => e = .returned (.iface 3 (.int .i64 (a + b))) ∧ w = w' := by
  have h1 := fun (v : Value) (w : World) => i_num v w
  have h2 := fun (v : Value) (w : World) => i_int v w
  go_enter Tryz.func50, Tryz.ntmps50
  go_wp2_with (first | (go_at_call 61; refine (addInt_any a b w ha hb).mono ?_; rintro e w' ⟨rfl, rfl⟩) | go_in)
  go_ret
  exact ⟨rfl, rfl⟩

/-- The iterator's block. -/
structure Iter (w : World) (B : Nat) (v e s : Value) : Prop where
  c0 : w.cell? ⟨B, 0, none⟩ = some v
  c1 : w.cell? ⟨B, 1, none⟩ = some e
  c2 : w.cell? ⟨B, 2, none⟩ = some s
  f0 : w.frozen? ⟨B, 0, none⟩ = false

set_option maxRecDepth 100000 in
set_option maxHeartbeats 1600000 in
theorem nextEnd_any (B : Nat) (a b s : Int) (w : World) (h : Iter w B (.iface 3 (.int .i64 a)) (.iface 3 (.int .i64 b)) (.iface 3 (.int .i64 s))) (hend : 0 ≤ cmpI s 0 * cmpI a b) :
    Calls Tryz.prog 33 #[.pointer (some ⟨B, 0, none⟩)] w fun e w' => e = .returned (.tuple #[.nilIface, .bool false]) ∧ Drawn w w' := by
  have mk := fun (x : Value) (w : World) => run_makeInterface (P := Tryz.prog) w 3 x (by kernel_rfl)
  obtain ⟨c0, c1, c2, f0⟩ := h
  have r1 := cmpI_range s 0
  have r2 := cmpI_range a b
  have C1 := fun (w : World) => compareInt_any s 0 w
  have C2 := fun (w : World) => compareInt_any a b w
  generalize cmpI s 0 = p at *
  generalize cmpI a b = q at *
  have hm : -1 ≤ p * q ∧ p * q ≤ 1 := by
    rcases (show p = -1 ∨ p = 0 ∨ p = 1 by omega) with rfl | rfl | rfl <;> omega
  go_enter Tryz.func33, Tryz.ntmps33
  go_wp2_with fail
  go_quiet ((go_at_call 27; first | exact Calls.quiet_of_same ((C1 _).mono fun _ _ h => ⟨h.1, h.2.symm⟩) | exact Calls.quiet_of_same ((C2 _).mono fun _ _ h => ⟨h.1, h.2.symm⟩)))
  go_wp2
  go_ret2
  exact ⟨rfl, ⟨_, rfl⟩⟩

theorem drewN_cell (w : World) (n : Nat) (p : Addr) : (w.drewN n).cell? p = w.cell? p := rfl

set_option maxRecDepth 100000 in
set_option maxHeartbeats 1600000 in
theorem nextGo_any (B : Nat) (a b s : Int) (w : World) (h : Iter w B (.iface 3 (.int .i64 a)) (.iface 3 (.int .i64 b)) (.iface 3 (.int .i64 s))) (hgo : cmpI s 0 * cmpI a b < 0)
    (ha : -4611686018427387904 ≤ a ∧ a ≤ 4611686018427387904) (hs : -4611686018427387904 ≤ s ∧ s < 4611686018427387904) :
    Calls Tryz.prog 33 #[.pointer (some ⟨B, 0, none⟩)] w fun e w' => e = .returned (.tuple #[.iface 3 (.int .i64 a), .bool true]) ∧ ∃ n, w' = (w.drewN n).setCell ⟨B, 0, none⟩ (.iface 3 (.int .i64 (a + s))) := by
  have mk := fun (x : Value) (w : World) => run_makeInterface (P := Tryz.prog) w 3 x (by kernel_rfl)
  obtain ⟨c0, c1, c2, f0⟩ := h
  have r1 := cmpI_range s 0
  have r2 := cmpI_range a b
  have C1 := fun (w : World) => compareInt_any s 0 w
  have C2 := fun (w : World) => compareInt_any a b w
  generalize cmpI s 0 = p at *
  generalize cmpI a b = q at *
  have hm : -1 ≤ p * q ∧ p * q ≤ 1 := by
    rcases (show p = -1 ∨ p = 0 ∨ p = 1 by omega) with rfl | rfl | rfl <;> omega
  have HO := fun (w : World) => opAdd_any a s w ha hs
  go_enter Tryz.func33, Tryz.ntmps33
  go_wp2_with fail
  go_quiet ((go_at_call 27; first | exact Calls.quiet_of_same ((C1 _).mono fun _ _ h => ⟨h.1, h.2.symm⟩) | exact Calls.quiet_of_same ((C2 _).mono fun _ _ h => ⟨h.1, h.2.symm⟩)))
  go_wp2_with (go_at_call 50; refine (HO _).mono ?_; rintro e w' ⟨rfl, rfl⟩)
  go_ret2
  exact ⟨rfl, _, rfl⟩

theorem i_flt (v : Value) (w : World) : (Instr.typeAssert (.iface 3 v) 20 38 true).run Tryz.prog w = .ok (.tuple #[.float .f64 0, .bool false]) w := by kernel_rfl
theorem i_big (v : Value) (w : World) : (Instr.typeAssert (.iface 3 v) 20 70 true).run Tryz.prog w = .ok (.tuple #[.pointer none, .bool false]) w := by kernel_rfl
theorem f_flt (v : Value) (w : World) : (Instr.typeAssert (.iface 38 v) 20 38 true).run Tryz.prog w = .ok (.tuple #[v, .bool true]) w := by kernel_rfl
theorem f_int (v : Value) (w : World) : (Instr.typeAssert (.iface 38 v) 20 3 true).run Tryz.prog w = .ok (.tuple #[.int .i64 0, .bool false]) w := by kernel_rfl
theorem f_big (v : Value) (w : World) : (Instr.typeAssert (.iface 38 v) 20 70 true).run Tryz.prog w = .ok (.tuple #[.pointer none, .bool false]) w := by kernel_rfl
theorem f_num (v : Value) (w : World) : (Instr.typeAssert (.iface 38 v) 20 85 true).run Tryz.prog w = .ok (.tuple #[.string ⟨#[]⟩, .bool false]) w := by kernel_rfl

/-- An int or a float. -/
def NumV (v : Value) : Prop := (∃ n, v = .iface 3 (.int .i64 n)) ∨ ∃ x, v = .iface 38 (.float .f64 x)

set_option maxRecDepth 100000 in
set_option maxHeartbeats 1600000 in
theorem funcRange_any (a : Option Addr) (c : Nat) (v0 v1 v2 : Value) (w : World) (r : Row w a [v0, v1, v2]) (h0 : NumV v0) (h1 : NumV v1) (h2 : NumV v2) :
    Calls Tryz.prog 49 #[.nilIface, .slice a 3 c] w fun e w' => ∃ B, e = .returned (.iface 53 (.pointer (some ⟨B, 0, none⟩))) ∧ w.heap.size ≤ B ∧ Below w.heap.size w w' ∧ Iter w' B v0 v1 v2 := by
  have g1 := fun (v : Value) (w : World) => i_num v w
  have g2 := fun (v : Value) (w : World) => i_int v w
  have g3 := fun (v : Value) (w : World) => i_flt v w
  have g4 := fun (v : Value) (w : World) => i_big v w
  have g5 := fun (v : Value) (w : World) => f_num v w
  have g6 := fun (v : Value) (w : World) => f_int v w
  have g7 := fun (v : Value) (w : World) => f_flt v w
  have g8 := fun (v : Value) (w : World) => f_big v w
  have mk := fun (x : Value) (w : World) => run_makeInterface (P := Tryz.prog) w 53 x (by kernel_rfl)
  obtain ⟨b, off, rfl, hbw, hc⟩ := r.at (k := 0) (by simp)
  have c0 : w.cell? ⟨b, off + 0, none⟩ = some v0 := hc 0 _ rfl
  have c1 : w.cell? ⟨b, off + 1, none⟩ = some v1 := hc 1 _ rfl
  have c2 : w.cell? ⟨b, off + 2, none⟩ = some v2 := hc 2 _ rfl
  clear hc r
  rw [Nat.add_zero] at c0
  have HS : Hid (∀ v, NumV v → (∃ n, v = .iface 3 (.int .i64 n)) ∨ ∃ x, v = .iface 38 (.float .f64 x)) := fun v h => h
  go_enter Tryz.func49, Tryz.ntmps49
  go_wp2_with fail
  go_loopw [9] (fun i wr => ∃ k : Nat, k ≤ 3 ∧ i = .int .i64 k ∧ wr = w) (fun i _ => 3 - (intOf i).toNat)
  case atStart => exact ⟨0, by omega, rfl, rfl⟩
  case round =>
    obtain ⟨k, hk, rfl, rfl⟩ := hrel
    rcases (show k = 0 ∨ k = 1 ∨ k = 2 ∨ k = 3 by omega) with rfl | rfl | rfl | rfl
    · rcases h0 with ⟨n, rfl⟩ | ⟨n, rfl⟩
      · go_wp2
        go_roundw
        case rel => exact ⟨1, by omega, by go_num, by first | rfl | trivial⟩
        case measure => simp [intOf]
      · go_wp2
        go_roundw
        case rel => exact ⟨1, by omega, by go_num, by first | rfl | trivial⟩
        case measure => simp [intOf]
    · rcases h1 with ⟨n, rfl⟩ | ⟨n, rfl⟩
      · go_wp2
        go_roundw
        case rel => exact ⟨2, by omega, by go_num, by first | rfl | trivial⟩
        case measure => simp [intOf]
      · go_wp2
        go_roundw
        case rel => exact ⟨2, by omega, by go_num, by first | rfl | trivial⟩
        case measure => simp [intOf]
    · rcases h2 with ⟨n, rfl⟩ | ⟨n, rfl⟩
      · go_wp2
        go_roundw
        case rel => exact ⟨3, by omega, by go_num, by first | rfl | trivial⟩
        case measure => simp [intOf]
      · go_wp2
        go_roundw
        case rel => exact ⟨3, by omega, by go_num, by first | rfl | trivial⟩
        case measure => simp [intOf]
    · rcases h0 with ⟨n0, rfl⟩ | ⟨n0, rfl⟩ <;> rcases h1 with ⟨n1, rfl⟩ | ⟨n1, rfl⟩ <;> rcases h2 with ⟨n2, rfl⟩ | ⟨n2, rfl⟩
      all_goals
        go_wp2_with fail
        go_still_tail 10, (by kernel_rfl)
        change wpList _ _ _ _ _ wr.drew
        generalize hw2 : wr.drew = w2
        go_wp2
        go_ret
        have hb : Below wr.heap.size wr w2 := by rw [← hw2]; exact (Below.refl _ _).drew
        have hsz : wr.heap.size = w2.heap.size := by rw [← hw2]; rfl
        refine ⟨_, rfl, by omega, hb.alloc (by omega) _, ?_⟩
        constructor <;> simp
end Go.Proofs.YtepebjabacgeoaaGreatDoor
