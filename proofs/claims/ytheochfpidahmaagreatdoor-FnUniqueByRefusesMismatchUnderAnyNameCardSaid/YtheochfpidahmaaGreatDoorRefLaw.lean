/-
  FnGroupByRefusesLengthMismatch and FnUniqueByRefusesMismatchUnderAnyName: the laws' walks (folder n001_68).
-/
import Derived.Test.YtheochfpidahmaaGreatDoorRef
namespace Go.Proofs.YtheochfpidahmaaGreatDoor
open Go Go.RowKit

theorem isErr_any (v : Value) (w : World) : Calls Tryz.prog 13 #[.iface 57 v] w fun e w' => e = .returned (.bool true) ∧ w = w' := by
  have h1 := fun (v : Value) (w : World) => m_err v w
  go_enter Tryz.func13, Tryz.ntmps13
  go_wp2
  go_ret
  exact ⟨rfl, rfl⟩
theorem isArr_any (v : Value) (w : World) : Calls Tryz.prog 14 #[.iface 57 v] w fun e w' => e = .returned (.bool false) ∧ w = w' := by
  have h1 := fun (v : Value) (w : World) => m_arr v w
  go_enter Tryz.func14, Tryz.ntmps14
  go_wp2
  go_ret
  exact ⟨rfl, rfl⟩

set_option maxRecDepth 100000 in
set_option maxHeartbeats 1600000 in
theorem law_FnGroupByRefusesLengthMismatch (a : Option Addr) (cap : Nat) (vs : List Int) (b : Option Addr) (cap2 : Nat) (xs : List Int) (w : World) (hl : vs.length ≤ 140737488351232) (_ha : a = none → vs = []) (_hcap : a = none → cap = 0) (hrow : Row w a (intV vs))
    (hlb : xs.length ≤ 140737488351232) (_hab : b = none → xs = []) (_hcapb : b = none → cap2 = 0) (hrowb : Row w b (intV xs)) :
    Calls Tryz.prog 3 #[.slice a vs.length cap, .slice b xs.length cap2] w (Holds w) := by
  have mk := fun (x : Value) (w : World) => run_makeInterface (P := Tryz.prog) w 25 x (by kernel_rfl)
  go_enter Tryz.func3, Tryz.ntmps3
  go_wp2_with fail
  refine (bytes2_any a b cap cap2 vs.length xs.length w hl hlb).mono ?_
  rintro e w' ⟨⟨g, rfl⟩, rfl⟩
  cases g with
  | false =>
    go_wp2
    go_ret
    exact ⟨rfl, Below.refl _ _⟩
  | true =>
  by_cases h16 : 65536 < vs.length
  · go_wp2_with fail
    go_ret
    exact ⟨rfl, Below.refl _ _⟩
  by_cases h17 : 65536 < xs.length
  · go_wp2_with fail
    go_ret
    exact ⟨rfl, Below.refl _ _⟩
  by_cases hlen : vs.length = xs.length
  · have hne : ((vs.length : Int) == (xs.length : Int)) = true := by simp; omega
    go_wp2_with fail
    go_ret
    exact ⟨rfl, Below.refl _ _⟩
  have hne : ((vs.length : Int) == (xs.length : Int)) = false := beq_eq_false_iff_ne.2 (by omega)
  have HN : Hid (¬ vs.length = xs.length) := hlen
  clear hlen
  go_wp2_with fail
  refine (toAny_any a cap vs w (by omega) hrow).mono ?_
  rintro e w1 ⟨a1, c1, n1, hn1, rfl, hown1, hb1, _⟩
  rw [anyI_len] at hn1
  subst hn1
  have q1 := hrowb.below (Nat.le_refl _) hb1
  clear hown1 hrow hrowb
  go_wp2_with fail
  refine (toAny_any b cap2 xs w1 (by omega) q1).mono ?_
  rintro e w2 ⟨b2, d2, n2, hn2, rfl, hown2, hb2, _⟩
  rw [anyI_len] at hn2
  subst hn2
  have hb12 := hb1.trans (hb2.mono hb1.size)
  clear hown2 q1 hb1 hb2
  go_wp2_with fail
  refine (groupBy_refused a1 b2 c1 d2 vs.length xs.length w2 HN.out).mono ?_
  rintro e w3 ⟨v, rfl, hb3⟩
  have hb13 := hb12.trans (hb3.mono hb12.size)
  go_wp2_with fail
  refine (isErr_any v w3).mono ?_
  rintro e w4 ⟨rfl, rfl⟩
  go_wp2_with fail
  refine (isArr_any v w3).mono ?_
  rintro e w4 ⟨rfl, rfl⟩
  go_wp2
  go_ret
  exact ⟨rfl, hb13⟩

set_option maxRecDepth 100000 in
set_option maxHeartbeats 1600000 in
theorem law_FnUniqueByRefusesMismatchUnderAnyName (s : ByteArray) (a : Option Addr) (cap : Nat) (vs : List Int) (b : Option Addr) (cap2 : Nat) (xs : List Int) (w : World) (hs : s.size ≤ 140737488355328) (hl : vs.length ≤ 140737488351232) (_ha : a = none → vs = []) (_hcap : a = none → cap = 0) (hrow : Row w a (intV vs))
    (hlb : xs.length ≤ 140737488351232) (_hab : b = none → xs = []) (_hcapb : b = none → cap2 = 0) (hrowb : Row w b (intV xs)) :
    Calls Tryz.prog 4 #[.string s, .slice a vs.length cap, .slice b xs.length cap2] w (Holds w) := by
  have mk := fun (x : Value) (w : World) => run_makeInterface (P := Tryz.prog) w 25 x (by kernel_rfl)
  go_enter Tryz.func4, Tryz.ntmps4
  go_wp2_with fail
  refine (bytes3_any s a b cap cap2 vs.length xs.length w hs hl hlb).mono ?_
  rintro e w' ⟨⟨g, rfl⟩, rfl⟩
  cases g with
  | false =>
    go_wp2
    go_ret
    exact ⟨rfl, Below.refl _ _⟩
  | true =>
  by_cases h15 : 1048576 < s.size
  · go_wp2_with fail
    go_ret
    exact ⟨rfl, Below.refl _ _⟩
  by_cases h16 : 131072 < vs.length
  · go_wp2_with fail
    go_ret
    exact ⟨rfl, Below.refl _ _⟩
  by_cases h17 : 131072 < xs.length
  · go_wp2_with fail
    go_ret
    exact ⟨rfl, Below.refl _ _⟩
  by_cases h18 : 1048576 < s.size + 8 * vs.length + 8 * xs.length
  · go_wp2_with fail
    go_ret
    exact ⟨rfl, Below.refl _ _⟩
  by_cases hlen : vs.length = xs.length
  · have hne : ((vs.length : Int) == (xs.length : Int)) = true := by simp; omega
    go_wp2_with fail
    go_ret
    exact ⟨rfl, Below.refl _ _⟩
  have hne : ((vs.length : Int) == (xs.length : Int)) = false := beq_eq_false_iff_ne.2 (by omega)
  have HN : Hid (¬ vs.length = xs.length) := hlen
  clear hlen
  go_wp2_with fail
  refine (toAny_any a cap vs w (by omega) hrow).mono ?_
  rintro e w1 ⟨a1, c1, n1, hn1, rfl, hown1, hb1, _⟩
  rw [anyI_len] at hn1
  subst hn1
  have q1 := hrowb.below (Nat.le_refl _) hb1
  clear hown1 hrow hrowb
  go_wp2_with fail
  refine (toAny_any b cap2 xs w1 (by omega) q1).mono ?_
  rintro e w2 ⟨b2, d2, n2, hn2, rfl, hown2, hb2, _⟩
  rw [anyI_len] at hn2
  subst hn2
  have hb12 := hb1.trans (hb2.mono hb1.size)
  clear hown2 q1 hb1 hb2
  go_wp2_with fail
  refine (uniqueBy_refused s a1 b2 c1 d2 vs.length xs.length w2 HN.out).mono ?_
  rintro e w3 ⟨v, rfl, hb3⟩
  have hb13 := hb12.trans (hb3.mono hb12.size)
  go_wp2_with fail
  refine (isErr_any v w3).mono ?_
  rintro e w4 ⟨rfl, rfl⟩
  go_wp2_with fail
  refine (isArr_any v w3).mono ?_
  rintro e w4 ⟨rfl, rfl⟩
  go_wp2
  go_ret
  exact ⟨rfl, hb13⟩
end Go.Proofs.YtheochfpidahmaaGreatDoor
