/-
  min over ints answers the least; over a value of another kind it refuses (null for an empty array): the law's walk.
-/
import Derived.Test.YtepebjabacgeoaaGreatDoorMin
import Derived.Test.YtepebjabacgeoaaGreatDoorMixed
import Derived.Deep.DeepCutAuto
namespace Go.Proofs.YtepebjabacgeoaaGreatDoor
open Go Go.RowKit

theorem bytesMin_any (a : Option Addr) (cap n : Nat) (x : Int) (w : World) (hl : n ≤ 140737488351232) :
    Calls Tryz.prog 10 #[.slice a n cap, .int .i64 x] w fun e w' => SomeBool e ∧ w = w' := by
  go_enter Tryz.func10, Tryz.ntmps10
  go_wp2
  all_goals (go_ret; exact ⟨⟨_, rfl⟩, rfl⟩)

theorem i_int3 (v : Value) (w : World) : (Instr.typeAssert (.iface 3 v) 20 3 true).run Tryz.prog w = .ok (.tuple #[v, .bool true]) w := by kernel_rfl
theorem zzIntOf_any (x : Int) (w : World) : Calls Tryz.prog 14 #[.iface 3 (.int .i64 x)] w fun e w' => e = .returned (.tuple #[.int .i64 x, .bool true]) ∧ w = w' := by
  have h := fun (v : Value) (w : World) => i_int3 v w
  go_enter Tryz.func14, Tryz.ntmps14
  go_wp2
  go_ret2
  exact ⟨rfl, rfl⟩

theorem m_arr_int (v : Value) (w : World) : (Instr.typeAssert (.iface 3 v) 20 26 true).run Tryz.prog w = .ok (.tuple #[.slice none 0 0, .bool false]) w := by kernel_rfl
theorem m_arr_flt (v : Value) (w : World) : (Instr.typeAssert (.iface 38 v) 20 26 true).run Tryz.prog w = .ok (.tuple #[.slice none 0 0, .bool false]) w := by kernel_rfl
theorem m_arr_str (v : Value) (w : World) : (Instr.typeAssert (.iface 9 v) 20 26 true).run Tryz.prog w = .ok (.tuple #[.slice none 0 0, .bool false]) w := by kernel_rfl
theorem m_arr_bool (v : Value) (w : World) : (Instr.typeAssert (.iface 4 v) 20 26 true).run Tryz.prog w = .ok (.tuple #[.slice none 0 0, .bool false]) w := by kernel_rfl
theorem m_arr_map (v : Value) (w : World) : (Instr.typeAssert (.iface 60 v) 20 26 true).run Tryz.prog w = .ok (.tuple #[.slice none 0 0, .bool false]) w := by kernel_rfl
theorem m_arr_nil (w : World) : (Instr.typeAssert .nilIface 20 26 true).run Tryz.prog w = .ok (.tuple #[.slice none 0 0, .bool false]) w := by kernel_rfl
/-- It is no array. -/
def NoArr (v : Value) : Prop := (v = .nilIface ∨ ∃ t x, v = .iface t x) ∧ ∀ w : World, (Instr.typeAssert v 20 26 true).run Tryz.prog w = .ok (.tuple #[.slice none 0 0, .bool false]) w

theorem MixR.noArr {k n : Int} {v : Value} (h : MixR k n v) (hk : k ≠ 6) : NoArr v := by
  rcases h with ⟨_, rfl⟩ | ⟨_, rfl⟩ | ⟨_, rfl⟩ | ⟨_, rfl⟩ | ⟨_, rfl⟩ | ⟨_, rfl⟩ | ⟨h, _⟩ | ⟨_, m, rfl⟩
  · exact ⟨.inr ⟨_, _, rfl⟩, m_arr_int _⟩
  · exact ⟨.inr ⟨_, _, rfl⟩, m_arr_flt _⟩
  · exact ⟨.inr ⟨_, _, rfl⟩, m_arr_flt _⟩
  · exact ⟨.inr ⟨_, _, rfl⟩, m_arr_str _⟩
  · exact ⟨.inl rfl, m_arr_nil⟩
  · exact ⟨.inr ⟨_, _, rfl⟩, m_arr_bool _⟩
  · exact absurd h hk
  · exact ⟨.inr ⟨_, _, rfl⟩, m_arr_map _⟩

/-- An error of funcMin's. -/
def Refused (w : World) (e : Ending) (w' : World) : Prop := ∃ p, e = .returned (.iface 81 (.pointer p)) ∧ Below w.heap.size w w'
theorem funcMinNo_any (v : Value) (w : World) (h : NoArr v) : Calls Tryz.prog 35 #[v] w (Refused w) := by
  have h1 : ∀ w : World, (Instr.typeAssert v 20 26 true).run Tryz.prog w = .ok (.tuple #[.slice none 0 0, .bool false]) w := h.2
  have mk := fun (x : Value) (w : World) => run_makeInterface (P := Tryz.prog) w 81 x (by kernel_rfl)
  have hs := h.1
  clear h
  rcases hs with rfl | ⟨t, x, rfl⟩
  · go_enter Tryz.func35, Tryz.ntmps35
    go_wp2
    go_ret
    exact ⟨_, rfl, by first | exact (Below.refl _ _).alloc (Nat.le_refl _) _ | exact Below.refl _ _⟩
  · go_enter Tryz.func35, Tryz.ntmps35
    go_wp2
    go_ret
    exact ⟨_, rfl, by first | exact (Below.refl _ _).alloc (Nat.le_refl _) _ | exact Below.refl _ _⟩

theorem e_err (v : Value) (w : World) : (Instr.typeAssert (.iface 81 v) 20 62 true).run Tryz.prog w = .ok (.tuple #[.iface 81 v, .bool true]) w := by kernel_rfl
theorem zzIsError_any (v : Value) (w : World) : Calls Tryz.prog 17 #[.iface 81 v] w fun e w' => e = .returned (.bool true) ∧ w = w' := by
  have h := fun (v : Value) (w : World) => e_err v w
  go_enter Tryz.func17, Tryz.ntmps17
  go_wp2
  go_ret
  exact ⟨rfl, rfl⟩

theorem int_neq_nil (v : Value) (w : World) : (binOp .neq 20 (.iface 3 v) .nilIface).run Tryz.prog w = .ok (.bool true) w := by kernel_rfl
theorem nil_neq_nil (w : World) : (binOp .neq 20 .nilIface .nilIface).run Tryz.prog w = .ok (.bool false) w := by kernel_rfl
theorem nil_eql_nil (w : World) : (binOp .eql 20 .nilIface .nilIface).run Tryz.prog w = .ok (.bool true) w := by kernel_rfl

/-- The law's second half: the value of another kind. -/
def Other (k : Int) (w : World) (e : Ending) (w' : World) : Prop := (k = 6 ∧ e = .returned .nilIface ∧ Below w.heap.size w w') ∨ (k ≠ 6 ∧ Refused w e w')
theorem zzMinOther_any (k n : Int) (v : Value) (w : World) (h : MixR k n v) : Calls Tryz.prog 12 #[v] w (Other k w) := by
  by_cases hk : k = 6
  · obtain ⟨a, rfl⟩ : ∃ a, v = .iface 26 (.slice (some a) 0 0) := by
      rcases h with ⟨h, _⟩ | ⟨h, _⟩ | ⟨h, _⟩ | ⟨h, _⟩ | ⟨h, _⟩ | ⟨h, _⟩ | ⟨_, h⟩ | ⟨h, _⟩
      all_goals first | exact h | omega
    have HM := funcMin_any (some a) 0 [] w (by simp) (.inl rfl)
    have H : Hid (Calls Tryz.prog 35 #[.iface 26 (.slice (some a) 0 0)] w _) := HM
    clear HM h
    go_enter Tryz.func12, Tryz.ntmps12
    go_wp2_with (go_at_call 35; refine H.out.mono ?_; rintro e w' ⟨⟨_, rfl⟩ | ⟨m, hm, _⟩, hd⟩)
    · go_ret
      exact .inl ⟨hk, rfl, hd.below _⟩
    · exact absurd hm.1 (by simp)
  · have H : Hid (Calls Tryz.prog 35 #[v] w (Refused w)) := funcMinNo_any v w (h.noArr hk)
    clear h
    go_enter Tryz.func12, Tryz.ntmps12
    go_wp2_with (go_at_call 35; refine H.out.mono ?_; rintro e w' ⟨p, rfl, hb⟩)
    go_ret
    exact .inr ⟨hk, _, rfl, hb⟩
theorem zzMin_any (a : Option Addr) (c : Nat) (xs : List Int) (w : World) (hl : xs.length ≤ 1099511627776) (r : Row w a (anyI xs)) :
    Calls Tryz.prog 12 #[.iface 26 (.slice a xs.length c)] w fun e w' => (xs = [] ∧ e = .returned .nilIface ∨ ∃ m, IsMin m xs ∧ e = .returned (.iface 3 (.int .i64 m))) ∧ Drawn w w' := by
  have H : Hid (Calls Tryz.prog 35 _ w _) := funcMin_any a c xs w hl r
  clear r
  go_enter Tryz.func12, Tryz.ntmps12
  go_wp2_with (go_at_call 35; refine H.out.mono ?_; rintro e w' ⟨⟨hx, rfl⟩ | ⟨m, hm, rfl⟩, hd⟩)
  · go_ret
    exact ⟨.inl ⟨hx, rfl⟩, hd⟩
  · go_ret
    exact ⟨.inr ⟨m, hm, rfl⟩, hd⟩

theorem row_new (w : World) (vs : List Int) : Row (w.alloc (.cells (intV vs).toArray 3)) (some ⟨w.heap.size, 0, none⟩) (intV vs) :=
  .inr ⟨w.heap.size, 0, rfl, by simp, fun j u hu => by
    have h := cells_new w (intV vs) 3 j u hu
    rw [Addr.add_lit] at h
    exact h⟩

/-- The law's end: from where the other value is made. -/
def Tail (w : World) (e : Ending) (w' : World) : Prop := Holds w e w'

set_option maxRecDepth 100000 in
set_option maxHeartbeats 3200000 in
theorem law_FnFuncMinIntsIsLeast (a : Option Addr) (cap : Nat) (xs : List Int) (x : Int) (w : World) (hl : xs.length ≤ 140737488351232) (ha : a = none → xs = []) (hcap : a = none → cap = 0) (hrow : Row w a (intV xs)) :
    Calls Tryz.prog 3 #[.slice a xs.length cap, .int .i64 x] w (Holds w) := by
  have HA : Hid (a = none → xs = []) := ha
  have HC : Hid (a = none → cap = 0) := hcap
  clear ha hcap
  have mk := fun (x : Value) (w : World) => run_makeInterface (P := Tryz.prog) w 26 x (by kernel_rfl)
  have n1 := fun (v : Value) (w : World) => int_neq_nil v w
  have n2 := fun (w : World) => nil_neq_nil w
  have n3 := fun (w : World) => nil_eql_nil w
  go_enter Tryz.func3, Tryz.ntmps3
  go_wp2_with fail
  refine (bytesMin_any a cap xs.length x w hl).mono ?_
  rintro e w' ⟨⟨b, rfl⟩, rfl⟩
  cases b with
  | false =>
    go_wp2
    go_ret
    exact ⟨rfl, Below.refl _ _⟩
  | true =>
  by_cases h16 : 131072 < xs.length
  · go_wp2_with fail
    go_ret
    exact ⟨rfl, Below.refl _ _⟩
  by_cases hx0 : x < 0
  · go_wp2_with fail
    go_ret
    exact ⟨rfl, Below.refl _ _⟩
  by_cases hx7 : 7 < x
  · go_wp2_with fail
    go_ret
    exact ⟨rfl, Below.refl _ _⟩
  have hl2 : xs.length ≤ 131072 := by omega
  have HX : Hid (0 ≤ x ∧ x ≤ 7) := by show _ ∧ _; omega
  clear h16
  go_wp2_with fail
  refine (clone_any a cap xs w (by omega) HA.out HC.out hrow).mono ?_
  rintro e w1 ⟨_, rfl, a1, c1, rfl, r1, hb1⟩
  clear hrow
  go_wp2_with fail
  refine (toAny_any a1 c1 xs w1 (by omega) r1).mono ?_
  rintro e w2 ⟨a2, c2, n2', hn2, rfl, hown2, hb2, _⟩
  rw [anyI_len] at hn2
  subst hn2
  have q2 : Row w2 a2 (anyI xs) := made_row (anyI_len xs).symm hown2
  have r2 := r1.below (Nat.le_refl _) hb2
  have hb12 := hb1.trans (hb2.mono hb1.size)
  clear hown2 r1 hb1 hb2
  go_wp2_with fail
  refine (zzMin_any a2 c2 xs w2 (by omega) q2).mono ?_
  rintro e w3 ⟨hres0, hd⟩
  obtain ⟨u, rfl, hres⟩ : ∃ u, e = .returned u ∧ (xs = [] ∧ u = .nilIface ∨ ∃ m, IsMin m xs ∧ u = .iface 3 (.int .i64 m)) := by
    rcases hres0 with ⟨h1, h2⟩ | ⟨m, h1, h2⟩
    · exact ⟨_, h2, .inl ⟨h1, rfl⟩⟩
    · exact ⟨_, h2, .inr ⟨m, h1, rfl⟩⟩
  clear hres0
  have r3 := r2.drawn hd
  have hb13 := hb12.trans (hd.below _)
  clear q2 r2 hb12 hd
  go_upto_if 30 with fail
  go_cut [] (fun wx => Below w.heap.size w wx)
  case first =>
    rcases hres with ⟨rfl, rfl⟩ | ⟨m, hm, rfl⟩
    · go_wp2_with fail
      go_meet
      exact hb13
    · have hpos : 0 < xs.length := by
        rcases Nat.eq_zero_or_pos xs.length with h | h
        · have := List.eq_nil_of_length_eq_zero h
          subst this
          exact absurd hm.1 (by simp)
        · exact h
      have hne : ((xs.length : Int) == 0) = false := beq_eq_false_iff_ne.2 (by omega)
      have HM := minOf_any a1 c1 xs (by omega) xs.length 0 xs.length w3 (by omega) hpos (Nat.le_refl _) r3
      have HM' : Hid (Calls Tryz.prog 15 _ w3 _) := HM
      clear HM
      go_wp2_with fail
      refine (zzIntOf_any m w3).mono ?_
      rintro e w4 ⟨rfl, rfl⟩
      go_wp2_with fail
      refine HM'.out.mono ?_
      rintro e w4 ⟨m2, hm2, rfl, rfl⟩
      have hmm : m2 = m := by
        have : part xs 0 xs.length = xs := by unfold part; rw [List.take_length, List.drop_zero]
        rw [this] at hm2
        exact hm2.uniq hm
      subst hmm
      go_wp2_with fail
      go_meet
      exact hb13
  case rest =>
    have hb := hcut
    clear hcut hb13 r3 hres n1 n2
    have hsz : w.heap.size ≤ wc.heap.size := hb.size
    obtain ⟨w4, hw4⟩ : ∃ w4, w4 = (wc.alloc (.cells (intV [(xs.length : Int)]).toArray 3)).alloc (.cells (intV [x]).toArray 3) := ⟨_, rfl⟩
    have hb4 : Below w.heap.size w w4 := by rw [hw4]; exact (hb.alloc hsz _).alloc (by simp; omega) _
    have q1 : Row w4 (some ⟨wc.heap.size, 0, none⟩) (intV [(xs.length : Int)]) := by
      rw [hw4]
      exact (row_new wc [(xs.length : Int)]).below (Nat.le_refl _) ((Below.refl _ _).alloc (Nat.le_refl _) _)
    have q2 : Row w4 (some ⟨wc.heap.size + 1, 0, none⟩) (intV [x]) := by
      rw [hw4]
      have := row_new (wc.alloc (.cells (intV [(xs.length : Int)]).toArray 3)) [x]
      simpa using this
    have HM := mixed_any (some ⟨wc.heap.size, 0, none⟩) (some ⟨wc.heap.size + 1, 0, none⟩) 1 1 [(xs.length : Int)] [x] w4 rfl (by simp) (by intro k hk; simp at hk; subst hk; exact HX.out) (by intro n hn; simp at hn; subst hn; omega) q1 q2
    rw [hw4] at HM
    have HM' : Hid (Calls Tryz.prog 16 _ _ _) := HM
    have hb4' : Hid (Below w.heap.size w w4) := hb4
    have HW : Hid (w4 = _) := hw4
    clear HM q1 q2 hb hb4 hw4
    go_wp2_with fail
    refine HM'.out.mono ?_
    rintro e w5 ⟨vals, hmix, hlen, a5, c5, n5, hn5, rfl, hown5, hb5, _⟩
    rw [← HW.out] at hown5 hb5
    obtain ⟨v, rfl⟩ : ∃ v, vals = [v] := List.length_eq_one_iff.1 hlen
    obtain rfl : n5 = 1 := hn5
    have hv : MixR x xs.length v := by
      obtain ⟨k, n, e1, e2, h⟩ := hmix.out 0 v rfl
      simp at e1 e2
      subst e1 e2
      exact h
    have q5 : Row w5 a5 [v] := made_row rfl hown5
    obtain ⟨b5, o5, rfl, _, hc5⟩ := q5.at (k := 0) (by simp)
    have hck : w5.cell? ⟨b5, o5 + 0, none⟩ = some v := hc5 0 _ rfl
    rw [Nat.add_zero] at hck
    have hbw5 : Below w.heap.size w w5 := hb4'.out.trans (hb5.mono hb4'.out.size)
    clear HM' hown5 hb5 hb4' HW q5 hc5 hmix hlen
    go_wp2_with fail
    refine (zzMinOther_any x xs.length v w5 hv).mono ?_
    rintro e w6 (⟨hx6, rfl, hb6⟩ | ⟨hx6, p, rfl, hb6⟩)
    · subst hx6
      have hbz := hbw5.trans (hb6.mono hbw5.size)
      go_wp2
      go_ret
      exact ⟨rfl, hbz⟩
    · have hbz := hbw5.trans (hb6.mono hbw5.size)
      have hxe : (x == 6) = false := beq_eq_false_iff_ne.2 hx6
      go_wp2_with fail
      refine (zzIsError_any _ w6).mono ?_
      rintro e w7 ⟨rfl, rfl⟩
      go_wp2
      go_ret
      exact ⟨rfl, hbz⟩
end Go.Proofs.YtepebjabacgeoaaGreatDoor
