/-
  max_by, min_by, max over rows of ints by their exported calls (folder n001_67).
-/
import Derived.Test.YtbochicgnoannaaGreatDoorBest
namespace Go.Proofs.YtbochicgnoannaaGreatDoor
open Go Go.RowKit

/-- The chosen value, or nil. -/
def VRes (m : Bool) (vs xs : List Int) (v : Value) : Prop := (xs = [] ∧ v = .nilIface) ∨ ∃ j, Best m xs xs.length j ∧ v = .iface 3 (.int .i64 (vs.getD j 0))
/-- The same, decoded. -/
def DRes (m : Bool) (vs xs : List Int) (v : Value) : Prop := (xs = [] ∧ v = .tuple #[.int .i64 0, .int .i64 0]) ∨ ∃ j, Best m xs xs.length j ∧ v = .tuple #[.int .i64 1, .int .i64 (vs.getD j 0)]

theorem minMaxBy_all (a b : Option Addr) (c d : Nat) (vs xs : List Int) (m : Bool) (w : World) (hl : xs.length ≤ 1099511627776) (hlen : vs.length = xs.length) (r : Row w a (anyI vs)) (q : Row w b (anyI xs)) :
    Calls Tryz.prog 24 #[.slice a vs.length c, .slice b xs.length d, .bool m] w fun e w' => ∃ v, e = .returned v ∧ VRes m vs xs v ∧ Drawn w w' := by
  by_cases h0 : xs.length = 0
  · have hx := List.eq_nil_of_length_eq_zero h0
    have hv := List.eq_nil_of_length_eq_zero (hlen.trans h0)
    subst hx
    subst hv
    clear r q h0 hlen
    go_enter Tryz.func24, Tryz.ntmps24
    go_wp2
    go_ret
    exact ⟨_, rfl, .inl ⟨rfl, rfl⟩, Drawn.refl w⟩
  · refine (minMaxBy_any a b c d vs xs m w hl hlen (by omega) r q).mono ?_
    rintro e w' ⟨j, hj, rfl, hd⟩
    exact ⟨_, rfl, .inr ⟨j, hj, rfl⟩, hd⟩

theorem i_nil3 (v : Value) (w : World) : (binOp .eql 20 (.iface 3 v) .nilIface).run Tryz.prog w = .ok (.bool false) w := by kernel_rfl
theorem nil_nil3 (w : World) : (binOp .eql 20 .nilIface .nilIface).run Tryz.prog w = .ok (.bool true) w := by kernel_rfl
theorem decode_any (m : Bool) (vs xs : List Int) (v : Value) (w : World) (h : VRes m vs xs v) : Calls Tryz.prog 20 #[v] w fun e w' => (∃ u, e = .returned u ∧ DRes m vs xs u) ∧ w = w' := by
  have h1 := fun (w : World) => nil_nil3 w
  have h2 := fun (v : Value) (w : World) => i_nil3 v w
  have h3 := fun (v : Value) (w : World) => i_int v w
  rcases h with ⟨hx, rfl⟩ | ⟨j, hj, rfl⟩
  · go_enter Tryz.func20, Tryz.ntmps20
    go_wp2
    go_ret2
    exact ⟨⟨_, rfl, .inl ⟨hx, rfl⟩⟩, rfl⟩
  · generalize hg : vs.getD j 0 = g
    go_enter Tryz.func20, Tryz.ntmps20
    go_wp2
    go_ret2
    exact ⟨⟨_, rfl, .inr ⟨j, hj, by rw [hg]; rfl⟩⟩, rfl⟩

set_option maxRecDepth 100000 in
theorem funcMax_any (a : Option Addr) (c : Nat) (xs : List Int) (w : World) (hl : xs.length ≤ 1099511627776) (r : Row w a (anyI xs)) :
    Calls Tryz.prog 23 #[.iface 35 (.slice a xs.length c)] w fun e w' => ∃ v, e = .returned v ∧ VRes false xs xs v ∧ Drawn w w' := by
  have h2 := fun (v : Value) (w : World) => a_arr v w
  have HM : Hid (Calls Tryz.prog 24 _ w _) := minMaxBy_all a a c c xs xs false w hl rfl r r
  clear r
  go_enter Tryz.func23, Tryz.ntmps23
  go_wp2_with (go_at_call 24; refine HM.out.mono ?_; rintro e w' ⟨v, rfl, hv, hd⟩)
  go_ret
  exact ⟨_, rfl, hv, hd⟩

set_option maxRecDepth 100000 in
theorem funcMaxBy_any (a b : Option Addr) (c d : Nat) (vs xs : List Int) (w : World) (hl : xs.length ≤ 1099511627776) (hlen : vs.length = xs.length) (r : Row w a (anyI vs)) (q : Row w b (anyI xs)) :
    Calls Tryz.prog 21 #[.iface 35 (.slice a vs.length c), .iface 35 (.slice b xs.length d)] w fun e w' => ∃ v, e = .returned v ∧ VRes false vs xs v ∧ Drawn w w' := by
  have h2 := fun (v : Value) (w : World) => a_arr v w
  have HM : Hid (Calls Tryz.prog 24 _ w _) := minMaxBy_all a b c d vs xs false w hl hlen r q
  have hne : ((vs.length : Int) != (xs.length : Int)) = false := by simp [hlen]
  clear r q hlen
  go_enter Tryz.func21, Tryz.ntmps21
  go_wp2_with (go_at_call 24; refine HM.out.mono ?_; rintro e w' ⟨v, rfl, hv, hd⟩)
  go_ret
  exact ⟨_, rfl, hv, hd⟩

set_option maxRecDepth 100000 in
theorem funcMinBy_any (a b : Option Addr) (c d : Nat) (vs xs : List Int) (w : World) (hl : xs.length ≤ 1099511627776) (hlen : vs.length = xs.length) (r : Row w a (anyI vs)) (q : Row w b (anyI xs)) :
    Calls Tryz.prog 25 #[.iface 35 (.slice a vs.length c), .iface 35 (.slice b xs.length d)] w fun e w' => ∃ v, e = .returned v ∧ VRes true vs xs v ∧ Drawn w w' := by
  have h2 := fun (v : Value) (w : World) => a_arr v w
  have HM : Hid (Calls Tryz.prog 24 _ w _) := minMaxBy_all a b c d vs xs true w hl hlen r q
  have hne : ((vs.length : Int) != (xs.length : Int)) = false := by simp [hlen]
  clear r q hlen
  go_enter Tryz.func25, Tryz.ntmps25
  go_wp2_with (go_at_call 24; refine HM.out.mono ?_; rintro e w' ⟨v, rfl, hv, hd⟩)
  go_ret
  exact ⟨_, rfl, hv, hd⟩

set_option maxRecDepth 100000 in
theorem zzMax_any (a : Option Addr) (c : Nat) (xs : List Int) (w : World) (hl : xs.length ≤ 1099511627776) (r : Row w a (intV xs)) :
    Calls Tryz.prog 10 #[.slice a xs.length c] w fun e w' => ∃ u, e = .returned u ∧ DRes false xs xs u ∧ Below w.heap.size w w' := by
  have mk := fun (x : Value) (w : World) => run_makeInterface (P := Tryz.prog) w 35 x (by kernel_rfl)
  go_enter Tryz.func10, Tryz.ntmps10
  go_wp2_with fail
  refine (toAny_any a c xs w hl r).mono ?_
  rintro e w1 ⟨_, rfl, a1, c1, rfl, r1, hb1⟩
  clear r
  go_wp2_with fail
  refine (funcMax_any a1 c1 xs w1 hl r1).mono ?_
  rintro e w2 ⟨v, rfl, hv, hd⟩
  have hb2 := hb1.trans (hd.below _)
  clear r1
  go_wp2_with fail
  refine (decode_any false xs xs v w2 hv).mono ?_
  rintro e w3 ⟨⟨u, rfl, hu⟩, rfl⟩
  rcases hu with ⟨hx, rfl⟩ | ⟨j, hj, rfl⟩
  · go_wp2
    go_ret2
    exact ⟨_, rfl, .inl ⟨hx, rfl⟩, hb2⟩
  · generalize hg : xs.getD j 0 = g
    go_wp2
    go_ret2
    exact ⟨_, rfl, .inr ⟨j, hj, by rw [hg]; rfl⟩, hb2⟩

set_option maxRecDepth 100000 in
theorem zzMaxBy_any (a b : Option Addr) (c d : Nat) (vs xs : List Int) (w : World) (hl : xs.length ≤ 1099511627776) (hlen : vs.length = xs.length) (r : Row w a (intV vs)) (q : Row w b (intV xs)) :
    Calls Tryz.prog 9 #[.slice a vs.length c, .slice b xs.length d] w fun e w' => ∃ u, e = .returned u ∧ DRes false vs xs u ∧ Below w.heap.size w w' := by
  have mk := fun (x : Value) (w : World) => run_makeInterface (P := Tryz.prog) w 35 x (by kernel_rfl)
  have hlv : vs.length ≤ 1099511627776 := by omega
  have HLEN : Hid (vs.length = xs.length) := hlen
  clear hlen
  go_enter Tryz.func9, Tryz.ntmps9
  go_wp2_with fail
  refine (toAny_any a c vs w hlv r).mono ?_
  rintro e w1 ⟨_, rfl, a1, c1, rfl, r1, hb1⟩
  have q1 := q.below (Nat.le_refl _) hb1
  clear r q
  go_wp2_with fail
  refine (toAny_any b d xs w1 hl q1).mono ?_
  rintro e w2 ⟨_, rfl, a2, c2, rfl, r2, hb2⟩
  have r1' := r1.below (Nat.le_refl _) hb2
  have hb12 := hb1.trans (hb2.mono hb1.size)
  clear r1 q1 hb1 hb2
  go_wp2_with fail
  refine (funcMaxBy_any a1 a2 c1 c2 vs xs w2 hl HLEN.out r1' r2).mono ?_
  rintro e w3 ⟨v, rfl, hv, hd⟩
  have hb3 := hb12.trans (hd.below _)
  clear r1' r2
  go_wp2_with fail
  refine (decode_any false vs xs v w3 hv).mono ?_
  rintro e w4 ⟨⟨u, rfl, hu⟩, rfl⟩
  rcases hu with ⟨hx, rfl⟩ | ⟨j, hj, rfl⟩
  · go_wp2
    go_ret2
    exact ⟨_, rfl, .inl ⟨hx, rfl⟩, hb3⟩
  · generalize hg : vs.getD j 0 = g
    go_wp2
    go_ret2
    exact ⟨_, rfl, .inr ⟨j, hj, by rw [hg]; rfl⟩, hb3⟩
end Go.Proofs.YtbochicgnoannaaGreatDoor
