/-
  indices and index from the exported calls down, over arrays of ints; equality of two rows of ints.
-/
import Derived.Test.YtbhjgdapmflkiaaGreatDoorIdx
import Derived.Test.YtbhjgdapmflkiaaGreatDoorFromAny
namespace Go.Proofs.YtbhjgdapmflkiaaGreatDoor
open Go Go.RowKit

theorem a_nil (v : Value) (w : World) : (binOp .eql 20 (.iface 41 v) .nilIface).run Tryz.prog w = .ok (.bool false) w := by kernel_rfl
theorem i_arr (v : Value) (w : World) : (Instr.typeAssert (.iface 3 v) 20 41 true).run Tryz.prog w = .ok (.tuple #[.slice none 0 0, .bool false]) w := by kernel_rfl
theorem nil_nil (w : World) : (binOp .eql 20 .nilIface .nilIface).run Tryz.prog w = .ok (.bool true) w := by kernel_rfl

set_option maxRecDepth 100000 in
set_option maxHeartbeats 1600000 in
theorem funcIndicesArr_any (a1 a2 : Option Addr) (c1 c2 : Nat) (vs xs : List Int) (w : World) (hl1 : vs.length ≤ 65536) (hl2 : xs.length ≤ 65536) (hc1 : vs.length ≤ c1) (r1 : Row w a1 (anyI vs)) (r2 : Row w a2 (anyI xs)) :
    Calls Tryz.prog 29 #[.iface 41 (.slice a1 vs.length c1), .iface 41 (.slice a2 xs.length c2)] w (MadeAny w (anyI (occs vs xs))) := by
  have h1 := fun (v : Value) (w : World) => a_nil v w
  have h2 := fun (v : Value) (w : World) => a_arr v w
  have HI : Hid (Calls Tryz.prog 33 _ w _) := indices_any a1 a2 c1 c2 vs xs w hl1 hl2 hc1 r1 r2
  clear r1 r2
  go_enter Tryz.func29, Tryz.ntmps29
  go_wp2_with (first | (go_at_call 33; refine HI.out.mono ?_; rintro e w' ⟨a, cap, _, rfl, rfl, hown, hb⟩) | go_in)
  go_ret
  exact ⟨a, cap, _, rfl, rfl, hown, hb⟩

set_option maxRecDepth 100000 in
set_option maxHeartbeats 1600000 in
theorem funcIndicesOne_any (a1 : Option Addr) (c1 : Nat) (vs : List Int) (x : Int) (w : World) (hl1 : vs.length ≤ 65536) (hc1 : vs.length ≤ c1) (r1 : Row w a1 (anyI vs)) :
    Calls Tryz.prog 29 #[.iface 41 (.slice a1 vs.length c1), .iface 3 (.int .i64 x)] w (MadeAny w (anyI (occs vs [x]))) := by
  have h1 := fun (v : Value) (w : World) => a_nil v w
  have h2 := fun (v : Value) (w : World) => a_arr v w
  have h3 := fun (v : Value) (w : World) => i_arr v w
  have hb0 : Below w.heap.size w (w.alloc (.cells #[.iface 3 (.int .i64 x)] 20)) := (Below.refl _ _).alloc (Nat.le_refl _) _
  have r2 : Row (w.alloc (.cells #[.iface 3 (.int .i64 x)] 20)) (some ⟨w.heap.size, 0, none⟩) (anyI [x]) :=
    .inr ⟨w.heap.size, 0, rfl, by simp, fun j u hu => by
      have h := cells_new w (anyI [x]) 20 j u hu
      rw [Addr.add_lit] at h
      exact h⟩
  have HI : Hid (Calls Tryz.prog 33 _ _ _) := indices_any a1 (some ⟨w.heap.size, 0, none⟩) c1 1 vs [x] (w.alloc (.cells #[.iface 3 (.int .i64 x)] 20)) hl1 (by simp) hc1 (r1.below (Nat.le_refl _) hb0) r2
  clear r1 r2
  go_enter Tryz.func29, Tryz.ntmps29
  go_wp2_with (first | (go_at_call 33; refine HI.out.mono ?_; rintro e w' ⟨a, cap, _, rfl, rfl, hown, hb⟩) | go_in)
  go_ret
  have hsz : w.heap.size ≤ (w.alloc (.cells #[.iface 3 (.int .i64 x)] 20)).heap.size := hb0.size
  refine ⟨a, cap, _, rfl, rfl, ?_, hb0.trans (hb.mono hsz)⟩
  refine ⟨hown.1, hown.2.imp id ?_⟩
  rintro ⟨g, cap', cur, q1, q2, q3⟩
  exact ⟨g, cap', cur, q1, Nat.le_trans hsz q2, q3⟩

theorem funcIndicesNil_any (v : Value) (w : World) :
    Calls Tryz.prog 29 #[.nilIface, v] w fun e w' => e = .returned .nilIface ∧ w = w' := by
  have h1 := fun (w : World) => nil_nil w
  go_enter Tryz.func29, Tryz.ntmps29
  go_wp2
  go_ret
  exact ⟨rfl, rfl⟩

set_option maxHeartbeats 800000 in
theorem eqInts_any (a1 a2 : Option Addr) (c1 c2 : Nat) (xs ys : List Int) (w : World) (hl1 : xs.length ≤ 1099511627776) (r1 : Row w a1 (intV xs)) (r2 : Row w a2 (intV ys)) (hxy : xs = ys) :
    Calls Tryz.prog 20 #[.slice a1 xs.length c1, .slice a2 ys.length c2] w fun e w' => e = .returned (.bool true) ∧ Drawn w w' := by
  subst hxy
  go_enter Tryz.func20, Tryz.ntmps20
  go_wp2
  go_loopw [5] (fun i wr => ∃ k : Nat, k ≤ xs.length ∧ i = .int .i64 k ∧ Drawn w wr) (fun i _ => xs.length - (intOf i).toNat)
  case atStart => exact ⟨0, by omega, rfl, Drawn.refl w⟩
  case round =>
    obtain ⟨k, hk, rfl, hd⟩ := hrel
    by_cases hlt : k < xs.length
    · obtain ⟨b1, o1, rfl, _, g1⟩ := r1.at (k := k) (by rw [intV_len]; exact hlt)
      obtain ⟨b2, o2, rfl, _, g2⟩ := r2.at (k := k) (by rw [intV_len]; exact hlt)
      have hc1 := (hd.cell _).trans (g1 k _ (intV_get xs hlt))
      have hc2 := (hd.cell _).trans (g2 k _ (intV_get xs hlt))
      have hi1 : (k : Int) < (xs.length : Int) := by omega
      clear g1 g2
      go_wp2_with fail
      go_quiet (fail)
      go_wp2
      go_roundw
      case rel => exact ⟨k + 1, by omega, by go_num, hd.more _⟩
      case measure => simp [intOf]; omega
    · go_wp2
      go_ret
      exact ⟨rfl, hd⟩
end Go.Proofs.YtbhjgdapmflkiaaGreatDoor
