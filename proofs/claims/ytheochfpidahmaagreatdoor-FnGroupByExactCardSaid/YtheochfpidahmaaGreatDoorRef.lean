/-
  Values and keys of different lengths are refused: sortItems, uniqueBy and group_by hand back an error (folder n001_68).
-/
import Derived.Test.YtheochfpidahmaaGreatDoorToAny
namespace Go.Proofs.YtheochfpidahmaaGreatDoor
open Go Go.RowKit

/-- A law's end: true; what was there before is as it was. -/
def Holds (w : World) (e : Ending) (w' : World) : Prop := e = .returned (.bool true) ∧ Below w.heap.size w w'
/-- The answer is an error made by the call. -/
def Refused (w : World) (e : Ending) (w' : World) : Prop := ∃ v, e = .returned (.iface 57 v) ∧ Below w.heap.size w w'

theorem m_nil (v : Value) (w : World) : (binOp .neq 40 (.iface 57 v) .nilIface).run Tryz.prog w = .ok (.bool true) w := by kernel_rfl
theorem m_err (v : Value) (w : World) : (Instr.typeAssert (.iface 57 v) 20 40 true).run Tryz.prog w = .ok (.tuple #[.iface 57 v, .bool true]) w := by kernel_rfl
theorem m_arr (v : Value) (w : World) : (Instr.typeAssert (.iface 57 v) 20 25 true).run Tryz.prog w = .ok (.tuple #[.slice none 0 0, .bool false]) w := by kernel_rfl

set_option maxRecDepth 100000 in
set_option maxHeartbeats 1600000 in
theorem sortItems_refused (s : ByteArray) (a1 a2 : Option Addr) (c1 c2 n1 n2 : Nat) (w : World) (hne : n1 ≠ n2) :
    Calls Tryz.prog 33 #[.string s, .iface 25 (.slice a1 n1 c1), .iface 25 (.slice a2 n2 c2)] w fun e w' =>
      ∃ v, e = .returned (.tuple #[.slice none 0 0, .iface 57 v]) ∧ Below w.heap.size w w' := by
  have h1 := fun (v : Value) (w : World) => a_arr v w
  have mk1 := fun (x : Value) (w : World) => run_makeInterface (P := Tryz.prog) w 57 x (by kernel_rfl)
  have mk2 := fun (x : Value) (w : World) => run_makeInterface (P := Tryz.prog) w 58 x (by kernel_rfl)
  have hd : ((n1 : Int) != (n2 : Int)) = true := bne_iff_ne.2 (by omega)
  go_enter Tryz.func33, Tryz.ntmps33
  go_wp2
  go_ret2
  exact ⟨_, rfl, ((Below.refl _ _).alloc (Nat.le_refl _) _).alloc (by simp) _⟩

set_option maxRecDepth 100000 in
set_option maxHeartbeats 1600000 in
theorem uniqueBy_refused (s : ByteArray) (a1 a2 : Option Addr) (c1 c2 n1 n2 : Nat) (w : World) (hne : n1 ≠ n2) :
    Calls Tryz.prog 16 #[.string s, .iface 25 (.slice a1 n1 c1), .iface 25 (.slice a2 n2 c2)] w (Refused w) := by
  have h1 := fun (v : Value) (w : World) => m_nil v w
  have HC : Hid (Calls Tryz.prog 33 _ w _) := sortItems_refused s a1 a2 c1 c2 n1 n2 w hne
  go_enter Tryz.func16, Tryz.ntmps16
  go_wp2_with (first | (go_at_call 33; refine HC.out.mono ?_; rintro e w' ⟨v, rfl, hb⟩) | go_in)
  go_ret
  exact ⟨v, rfl, hb⟩

set_option maxRecDepth 100000 in
set_option maxHeartbeats 1600000 in
theorem groupBy_refused (a1 a2 : Option Addr) (c1 c2 n1 n2 : Nat) (w : World) (hne : n1 ≠ n2) :
    Calls Tryz.prog 11 #[.iface 25 (.slice a1 n1 c1), .iface 25 (.slice a2 n2 c2)] w (Refused w) := by
  have h1 := fun (v : Value) (w : World) => m_nil v w
  have HC : Hid (∀ s, Calls Tryz.prog 33 _ w _) := fun s => sortItems_refused s a1 a2 c1 c2 n1 n2 w hne
  go_enter Tryz.func11, Tryz.ntmps11
  go_wp2_with (first | (go_at_call 33; refine (HC.out _).mono ?_; rintro e w' ⟨v, rfl, hb⟩) | go_in)
  go_ret
  exact ⟨v, rfl, hb⟩

theorem bytes2_any (a1 a2 : Option Addr) (c1 c2 n1 n2 : Nat) (w : World) (hl1 : n1 ≤ 140737488351232) (hl2 : n2 ≤ 140737488351232) :
    Calls Tryz.prog 10 #[.slice a1 n1 c1, .slice a2 n2 c2] w fun e w' => SomeBool e ∧ w = w' := by
  go_enter Tryz.func10, Tryz.ntmps10
  go_wp2
  all_goals (go_ret; exact ⟨⟨_, rfl⟩, rfl⟩)

theorem bytes3_any (s : ByteArray) (a1 a2 : Option Addr) (c1 c2 n1 n2 : Nat) (w : World) (hs : s.size ≤ 140737488355328) (hl1 : n1 ≤ 140737488351232) (hl2 : n2 ≤ 140737488351232) :
    Calls Tryz.prog 15 #[.string s, .slice a1 n1 c1, .slice a2 n2 c2] w fun e w' => SomeBool e ∧ w = w' := by
  go_enter Tryz.func15, Tryz.ntmps15
  go_wp2
  all_goals (go_ret; exact ⟨⟨_, rfl⟩, rfl⟩)
end Go.Proofs.YtheochfpidahmaaGreatDoor
