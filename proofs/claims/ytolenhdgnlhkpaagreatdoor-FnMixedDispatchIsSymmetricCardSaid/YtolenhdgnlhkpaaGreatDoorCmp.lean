/-
  Compare at two ints, and at two arrays of ints: the type switch, its callbacks, the arrays' loop, by their contracts.
-/
import Derived.Test.YtolenhdgnlhkpaaGreatDoorProg
import Derived.Test.YtolenhdgnlhkpaaGreatDoorKit
import Derived.WalkSpells
import Derived.KernelRfl
import Derived.Deep.QuietTactic
import Derived.BigQuiet
namespace Go.Proofs.YtolenhdgnlhkpaaGreatDoor
open Go Go.RowKit

/-- The order of two ints as Compare tells it. -/
def cmpI (a b : Int) : Int := if a < b then -1 else if b < a then 1 else 0
theorem cmpI_lt {a b : Int} (h : a < b) : cmpI a b = -1 := by unfold cmpI; rw [if_pos h]
theorem cmpI_gt {a b : Int} (h : b < a) : cmpI a b = 1 := by unfold cmpI; rw [if_neg (by omega), if_pos h]
theorem cmpI_eq {a b : Int} (h : a = b) : cmpI a b = 0 := by unfold cmpI; rw [if_neg (by omega), if_neg (by omega)]
theorem cmpI_zero {a b : Int} : cmpI a b = 0 ↔ a = b := by unfold cmpI; split <;> (try split) <;> constructor <;> intro h <;> omega

theorem cmpInt_any (a b : Int) (w : World) :
    Calls Tryz.prog 23 #[.int .i64 a, .int .i64 b] w fun e w' => e = .returned (.int .i64 (cmpI a b)) ∧ w = w' := by
  rcases (show a < b ∨ b < a ∨ a = b by omega) with h | h | h
  · go_enter Tryz.func23, Tryz.ntmps23
    go_wp2
    go_ret
    exact ⟨ret_int (cmpI_lt h).symm, rfl⟩
  · have h' : ¬ a < b := by omega
    go_enter Tryz.func23, Tryz.ntmps23
    go_wp2
    go_ret
    exact ⟨ret_int (cmpI_gt h).symm, rfl⟩
  · subst h
    go_enter Tryz.func23, Tryz.ntmps23
    go_wp2
    go_ret
    exact ⟨ret_int (cmpI_eq rfl).symm, rfl⟩

/-! The type switch's assertions at a cell that is an int, an array. -/
theorem i_num (v : Value) (w : World) : (Instr.typeAssert (.iface 3 v) 20 63 true).run Tryz.prog w = .ok (.tuple #[.string ⟨#[]⟩, .bool false]) w := by kernel_rfl
theorem i_int (v : Value) (w : World) : (Instr.typeAssert (.iface 3 v) 20 3 true).run Tryz.prog w = .ok (.tuple #[v, .bool true]) w := by kernel_rfl
theorem a_num (v : Value) (w : World) : (Instr.typeAssert (.iface 44 v) 20 63 true).run Tryz.prog w = .ok (.tuple #[.string ⟨#[]⟩, .bool false]) w := by kernel_rfl
theorem a_int (v : Value) (w : World) : (Instr.typeAssert (.iface 44 v) 20 3 true).run Tryz.prog w = .ok (.tuple #[.int .i64 0, .bool false]) w := by kernel_rfl
theorem a_flt (v : Value) (w : World) : (Instr.typeAssert (.iface 44 v) 20 22 true).run Tryz.prog w = .ok (.tuple #[.float .f64 0, .bool false]) w := by kernel_rfl
theorem a_big (v : Value) (w : World) : (Instr.typeAssert (.iface 44 v) 20 33 true).run Tryz.prog w = .ok (.tuple #[.pointer none, .bool false]) w := by kernel_rfl
theorem a_str (v : Value) (w : World) : (Instr.typeAssert (.iface 44 v) 20 9 true).run Tryz.prog w = .ok (.tuple #[.string ⟨#[]⟩, .bool false]) w := by kernel_rfl
theorem a_arr (v : Value) (w : World) : (Instr.typeAssert (.iface 44 v) 20 44 true).run Tryz.prog w = .ok (.tuple #[v, .bool true]) w := by kernel_rfl

set_option maxRecDepth 100000 in
set_option maxHeartbeats 1600000 in
theorem compareInt_any (a b : Int) (w : World) :
    Calls Tryz.prog 10 #[.iface 3 (.int .i64 a), .iface 3 (.int .i64 b)] w fun e w' => e = .returned (.int .i64 (cmpI a b)) ∧ w = w' := by
  have h1 := fun (v : Value) (w : World) => i_num v w
  have h2 := fun (v : Value) (w : World) => i_int v w
  go_enter Tryz.func10, Tryz.ntmps10
  go_wp2_with (first | (go_at_call 23; refine (cmpInt_any a b w).mono ?_; rintro e w' ⟨rfl, rfl⟩) | go_in)
  go_ret
  exact ⟨rfl, rfl⟩

/-! ### Arrays of ints -/
/-- Ints as interface values. -/
def anyI (xs : List Int) : List Value := xs.map fun x => .iface 3 (.int .i64 x)
theorem anyI_get (xs : List Int) {k : Nat} (h : k < xs.length) : (anyI xs)[k]? = some (.iface 3 (.int .i64 xs[k])) := by simp [anyI, h]
theorem anyI_len (xs : List Int) : (anyI xs).length = xs.length := by simp [anyI]

def cmpL : List Int → List Int → Int
  | [], [] => 0
  | [], _ :: _ => -1
  | _ :: _, [] => 1
  | x :: xs, y :: ys => if cmpI x y = 0 then cmpL xs ys else cmpI x y
theorem cmpL_diff : ∀ (xs ys : List Int) (k : Nat) (h1 : k < xs.length) (h2 : k < ys.length), xs.take k = ys.take k → cmpI xs[k] ys[k] ≠ 0 → cmpL xs ys = cmpI xs[k] ys[k]
  | [], _, _, h1, _, _, _ => by simp at h1
  | _ :: _, [], _, _, h2, _, _ => by simp at h2
  | x :: xs, y :: ys, 0, _, _, _, hd => by simp only [List.getElem_cons_zero] at hd ⊢; rw [cmpL, if_neg hd]
  | x :: xs, y :: ys, k + 1, h1, h2, he, hd => by
    simp only [List.take_succ_cons, List.cons.injEq] at he
    simp only [List.getElem_cons_succ] at hd ⊢
    rw [cmpL, if_pos (cmpI_zero.2 he.1)]
    exact cmpL_diff xs ys k (by simpa using h1) (by simpa using h2) he.2 hd
theorem cmpL_same : ∀ (xs ys : List Int) (k : Nat), k ≤ xs.length → k ≤ ys.length → (k = xs.length ∨ k = ys.length) → xs.take k = ys.take k → cmpL xs ys = cmpI xs.length ys.length
  | [], [], _, _, _, _, _ => by simp [cmpL, cmpI]
  | [], y :: ys, _, _, _, _, _ => by rw [cmpL, cmpI_lt (by simp only [List.length_cons, List.length_nil]; omega)]
  | x :: xs, [], _, _, _, _, _ => by rw [cmpL, cmpI_gt (by simp only [List.length_cons, List.length_nil]; omega)]
  | x :: xs, y :: ys, 0, _, _, h, _ => by simp at h
  | x :: xs, y :: ys, k + 1, h1, h2, h3, he => by
    simp only [List.take_succ_cons, List.cons.injEq] at he
    rw [cmpL, if_pos (cmpI_zero.2 he.1), cmpL_same xs ys k (by simpa using h1) (by simpa using h2) (by simpa using h3) he.2]
    unfold cmpI
    simp only [List.length_cons]
    split <;> split <;> (try split) <;> (try split) <;> omega
theorem cmpL_zero : ∀ (xs ys : List Int), cmpL xs ys = 0 ↔ xs = ys
  | [], [] => by simp [cmpL]
  | [], _ :: _ => by simp [cmpL]
  | _ :: _, [] => by simp [cmpL]
  | x :: xs, y :: ys => by
    rw [cmpL]
    split
    · rename_i h
      rw [cmpL_zero xs ys, cmpI_zero.1 h]; simp
    · rename_i h
      rw [cmpI_zero] at h ⊢
      simp [h]
theorem cmpI_range (a b : Int) : -1 ≤ cmpI a b ∧ cmpI a b ≤ 1 := by unfold cmpI; split <;> (try split) <;> omega

/-- Some draws later. -/
def Drawn (w w' : World) : Prop := ∃ n, w' = w.drewN n
theorem Drawn.refl (w : World) : Drawn w w := ⟨0, rfl⟩
theorem Drawn.trans {a b c : World} (h : Drawn a b) (k : Drawn b c) : Drawn a c := by
  obtain ⟨n, rfl⟩ := h
  obtain ⟨m, rfl⟩ := k
  exact ⟨n + m, by rw [World.drewN_drewN]⟩
theorem Drawn.more {a b : World} (h : Drawn a b) (n : Nat) : Drawn a (b.drewN n) := h.trans ⟨n, rfl⟩
theorem Drawn.heap {a b : World} (h : Drawn a b) : b.heap = a.heap := by obtain ⟨n, rfl⟩ := h; rfl
theorem Drawn.below {a b : World} (h : Drawn a b) (B : Nat) : Below B a b := by obtain ⟨n, rfl⟩ := h; exact ⟨rfl, rfl, rfl, Nat.le_refl _, fun _ _ => rfl⟩
theorem Drawn.cell {a b : World} (h : Drawn a b) (p : Addr) : b.cell? p = a.cell? p := by obtain ⟨n, rfl⟩ := h; rfl
theorem Row.drawn {w w' : World} {a : Option Addr} {vs : List Value} (h : Row w a vs) (hd : Drawn w w') : Row w' a vs := by obtain ⟨n, rfl⟩ := hd; exact h

set_option maxRecDepth 100000 in
set_option maxHeartbeats 1600000 in
theorem cmpArr_any (a1 a2 : Option Addr) (c1 c2 : Nat) (xs ys : List Int) (w : World) (hl1 : xs.length ≤ 1099511627776) (hl2 : ys.length ≤ 1099511627776) (r1 : Row w a1 (anyI xs)) (r2 : Row w a2 (anyI ys)) :
    Calls Tryz.prog 28 #[.slice a1 xs.length c1, .slice a2 ys.length c2] w fun e w' => e = .returned (.int .i64 (cmpL xs ys)) ∧ Drawn w w' := by
  by_cases h : ys.length < xs.length
  · go_enter Tryz.func28, Tryz.ntmps28
    go_wp2
    go_loopw [12] (fun i wr => ∃ k : Nat, k ≤ ys.length ∧ Hid (xs.take k = ys.take k) ∧ i = .int .i64 k ∧ Drawn w wr) (fun i _ => ys.length - (intOf i).toNat)
    case atStart => exact ⟨0, by omega, by show _ = _; simp, rfl, Drawn.refl w⟩
    case round =>
      obtain ⟨k, hk, HE, rfl, hd⟩ := hrel
      by_cases hlt : k < ys.length
      · have hx : k < xs.length := by omega
        have hy : k < ys.length := by omega
        obtain ⟨b1, o1, rfl, _, g1⟩ := r1.at (k := k) (by rw [anyI_len]; exact hx)
        obtain ⟨b2, o2, rfl, _, g2⟩ := r2.at (k := k) (by rw [anyI_len]; exact hy)
        have hc1 := (hd.cell _).trans (g1 k _ (anyI_get xs hx))
        have hc2 := (hd.cell _).trans (g2 k _ (anyI_get ys hy))
        have hi1 : (k : Int) < (xs.length : Int) := by omega
        have hi2 : (k : Int) < (ys.length : Int) := by omega
        clear g1 g2
        go_wp2_with fail
        go_quiet ((go_at_call 10; exact Calls.quiet_of_same ((compareInt_any xs[k] ys[k] _).mono fun _ _ h => ⟨h.1, h.2.symm⟩)))
        obtain ⟨c, hc⟩ : ∃ c, c = cmpI xs[k] ys[k] := ⟨_, rfl⟩
        have hr := cmpI_range xs[k] ys[k]
        rw [← hc] at hr ⊢
        have HC : Hid (c = cmpI xs[k] ys[k]) := hc
        clear hc hc1 hc2
        by_cases h0 : c = 0
        · subst h0
          have HE2 : Hid (xs.take (k + 1) = ys.take (k + 1)) := by
            show _ = _
            rw [List.take_succ_eq_append_getElem hx, List.take_succ_eq_append_getElem hy, HE.out, cmpI_zero.1 HC.out.symm]
          go_wp2
          go_roundw
          case rel => exact ⟨k + 1, by omega, HE2, by go_num, hd.more _⟩
          case measure => simp [intOf]; omega
        · go_wp2
          go_ret
          refine ⟨ret_int ?_, hd.more _⟩
          rw [cmpL_diff xs ys k hx hy HE.out (by rw [← HC.out]; exact h0)]
          exact HC.out
      · have hk' : k = ys.length := by omega
        subst hk'
        go_wp2_with (go_at_call 23; refine (cmpInt_any _ _ _).mono ?_; rintro e w' ⟨rfl, rfl⟩)
        go_ret
        exact ⟨ret_int (cmpL_same xs ys ys.length (by omega) (by omega) (.inr rfl) HE.out).symm, hd⟩
  · go_enter Tryz.func28, Tryz.ntmps28
    go_wp2
    go_loopw [12] (fun i wr => ∃ k : Nat, k ≤ xs.length ∧ Hid (xs.take k = ys.take k) ∧ i = .int .i64 k ∧ Drawn w wr) (fun i _ => xs.length - (intOf i).toNat)
    case atStart => exact ⟨0, by omega, by show _ = _; simp, rfl, Drawn.refl w⟩
    case round =>
      obtain ⟨k, hk, HE, rfl, hd⟩ := hrel
      by_cases hlt : k < xs.length
      · have hx : k < xs.length := by omega
        have hy : k < ys.length := by omega
        obtain ⟨b1, o1, rfl, _, g1⟩ := r1.at (k := k) (by rw [anyI_len]; exact hx)
        obtain ⟨b2, o2, rfl, _, g2⟩ := r2.at (k := k) (by rw [anyI_len]; exact hy)
        have hc1 := (hd.cell _).trans (g1 k _ (anyI_get xs hx))
        have hc2 := (hd.cell _).trans (g2 k _ (anyI_get ys hy))
        have hi1 : (k : Int) < (xs.length : Int) := by omega
        have hi2 : (k : Int) < (ys.length : Int) := by omega
        clear g1 g2
        go_wp2_with fail
        go_quiet ((go_at_call 10; exact Calls.quiet_of_same ((compareInt_any xs[k] ys[k] _).mono fun _ _ h => ⟨h.1, h.2.symm⟩)))
        obtain ⟨c, hc⟩ : ∃ c, c = cmpI xs[k] ys[k] := ⟨_, rfl⟩
        have hr := cmpI_range xs[k] ys[k]
        rw [← hc] at hr ⊢
        have HC : Hid (c = cmpI xs[k] ys[k]) := hc
        clear hc hc1 hc2
        by_cases h0 : c = 0
        · subst h0
          have HE2 : Hid (xs.take (k + 1) = ys.take (k + 1)) := by
            show _ = _
            rw [List.take_succ_eq_append_getElem hx, List.take_succ_eq_append_getElem hy, HE.out, cmpI_zero.1 HC.out.symm]
          go_wp2
          go_roundw
          case rel => exact ⟨k + 1, by omega, HE2, by go_num, hd.more _⟩
          case measure => simp [intOf]; omega
        · go_wp2
          go_ret
          refine ⟨ret_int ?_, hd.more _⟩
          rw [cmpL_diff xs ys k hx hy HE.out (by rw [← HC.out]; exact h0)]
          exact HC.out
      · have hk' : k = xs.length := by omega
        subst hk'
        go_wp2_with (go_at_call 23; refine (cmpInt_any _ _ _).mono ?_; rintro e w' ⟨rfl, rfl⟩)
        go_ret
        exact ⟨ret_int (cmpL_same xs ys xs.length (by omega) (by omega) (.inl rfl) HE.out).symm, hd⟩

set_option maxRecDepth 100000 in
set_option maxHeartbeats 1600000 in
theorem compareArr_any (a1 a2 : Option Addr) (c1 c2 : Nat) (xs ys : List Int) (w : World) (hl1 : xs.length ≤ 1099511627776) (hl2 : ys.length ≤ 1099511627776) (r1 : Row w a1 (anyI xs)) (r2 : Row w a2 (anyI ys)) :
    Calls Tryz.prog 10 #[.iface 44 (.slice a1 xs.length c1), .iface 44 (.slice a2 ys.length c2)] w fun e w' => e = .returned (.int .i64 (cmpL xs ys)) ∧ Drawn w w' := by
  have h1 := fun (v : Value) (w : World) => a_num v w
  have h2 := fun (v : Value) (w : World) => a_int v w
  have h3 := fun (v : Value) (w : World) => a_flt v w
  have h4 := fun (v : Value) (w : World) => a_big v w
  have h5 := fun (v : Value) (w : World) => a_str v w
  have h6 := fun (v : Value) (w : World) => a_arr v w
  have HC := cmpArr_any a1 a2 c1 c2 xs ys w hl1 hl2 r1 r2
  have HC' : Hid (Calls Tryz.prog 28 _ w _) := HC
  clear HC r1 r2
  go_enter Tryz.func10, Tryz.ntmps10
  go_wp2_with (first | (go_at_call 28; refine HC'.out.mono ?_; rintro e w' ⟨rfl, hd⟩) | go_in)
  go_ret
  exact ⟨rfl, hd⟩
end Go.Proofs.YtolenhdgnlhkpaaGreatDoor
