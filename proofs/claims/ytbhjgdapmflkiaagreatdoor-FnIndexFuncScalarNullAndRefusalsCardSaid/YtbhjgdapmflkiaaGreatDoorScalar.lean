/-
  indices at a scalar, at null, and its refusals: the law's walk (folder n001_82).
-/
import Derived.Test.YtbhjgdapmflkiaaGreatDoorRidx
namespace Go.Proofs.YtbhjgdapmflkiaaGreatDoor
open Go Go.RowKit

theorem bytesS_any (a : Option Addr) (cap n : Nat) (x : Int) (s : ByteArray) (w : World) (hl : n ≤ 140737488351232) (hl2 : s.size ≤ 140737488355328) :
    Calls Tryz.prog 18 #[.slice a n cap, .int .i64 x, .string s] w fun e w' => SomeBool e ∧ w = w' := by
  go_enter Tryz.func18, Tryz.ntmps18
  go_wp2
  all_goals (go_ret; exact ⟨⟨_, rfl⟩, rfl⟩)

set_option maxRecDepth 100000 in
set_option maxHeartbeats 1600000 in
theorem zzScalar_any (a : Option Addr) (c : Nat) (vs : List Int) (x : Int) (w : World) (hl : vs.length ≤ 65536) (r : Row w a (intV vs)) :
    Calls Tryz.prog 19 #[.slice a vs.length c, .int .i64 x] w (FromRow w (occs vs [x])) := by
  have mk := fun (x : Value) (w : World) => run_makeInterface (P := Tryz.prog) w 41 x (by kernel_rfl)
  have mk2 := fun (x : Value) (w : World) => run_makeInterface (P := Tryz.prog) w 3 x (by kernel_rfl)
  go_enter Tryz.func19, Tryz.ntmps19
  go_wp2_with fail
  refine (toAny_any a c vs w (by omega) r).mono ?_
  rintro e w1 ⟨a1, c1, n1, hn1, rfl, hown1, hb1, _⟩
  rw [anyI_len] at hn1
  subst hn1
  have r1 : Row w1 a1 (anyI vs) := made_row (anyI_len vs).symm hown1
  have hc1' : vs.length ≤ c1 := own_le_cap hown1
  clear hown1
  go_wp2_with fail
  refine (funcIndicesOne_any a1 c1 vs x w1 hl hc1' r1).mono ?_
  rintro e w2 ⟨a2, c2, _, rfl, rfl, hown2, hb2⟩
  have r2 := row_any hown2
  have hb3 := hb1.trans (hb2.mono hb1.size)
  have hlo := occs_len vs [x]
  rw [anyI_len]
  clear hown2 r1 r hb1 hb2
  go_wp2_with fail
  refine (fromAny_any a2 c2 (occs vs [x]) w2 (by omega) r2).mono ?_
  rintro e w3 ⟨a3, c3, rfl, r3, hb4⟩
  go_wp2
  go_ret2
  exact ⟨a3, c3, rfl, r3, hb3.trans (hb4.mono hb3.size)⟩

theorem zzNull_any (x : Int) (w : World) :
    Calls Tryz.prog 21 #[.int .i64 x] w fun e w' => e = .returned (.bool true) ∧ w = w' := by
  have mk2 := fun (x : Value) (w : World) => run_makeInterface (P := Tryz.prog) w 3 x (by kernel_rfl)
  have h1 := fun (w : World) => nil_nil w
  go_enter Tryz.func21, Tryz.ntmps21
  go_wp2_with fail
  refine (funcIndicesNil_any _ w).mono ?_
  rintro e w' ⟨rfl, rfl⟩
  go_wp2
  go_ret
  exact ⟨rfl, rfl⟩

set_option maxRecDepth 100000 in
theorem zzNullArr_any (a : Option Addr) (c : Nat) (vs : List Int) (w : World) (hl : vs.length ≤ 65536) (r : Row w a (intV vs)) :
    Calls Tryz.prog 22 #[.slice a vs.length c] w fun e w' => e = .returned (.bool true) ∧ Below w.heap.size w w' := by
  have mk := fun (x : Value) (w : World) => run_makeInterface (P := Tryz.prog) w 41 x (by kernel_rfl)
  have h1 := fun (w : World) => nil_nil w
  go_enter Tryz.func22, Tryz.ntmps22
  go_wp2_with fail
  refine (toAny_any a c vs w (by omega) r).mono ?_
  rintro e w1 ⟨a1, c1, n1, hn1, rfl, hown1, hb1, _⟩
  clear hown1 r
  go_wp2_with fail
  refine (funcIndicesNil_any _ w1).mono ?_
  rintro e w' ⟨rfl, rfl⟩
  go_wp2
  go_ret
  exact ⟨rfl, hb1⟩

/-! The type switch of indexFunc at a string, at an int. -/
theorem x_s_nil (v : Value) (w : World) : (binOp .eql 20 (.iface 9 v) .nilIface).run Tryz.prog w = .ok (.bool false) w := by kernel_rfl
theorem x_i_nil (v : Value) (w : World) : (binOp .eql 20 (.iface 3 v) .nilIface).run Tryz.prog w = .ok (.bool false) w := by kernel_rfl
theorem x_s_arr (v : Value) (w : World) : (Instr.typeAssert (.iface 9 v) 20 41 true).run Tryz.prog w = .ok (.tuple #[.slice none 0 0, .bool false]) w := by kernel_rfl
theorem x_s_str (v : Value) (w : World) : (Instr.typeAssert (.iface 9 v) 20 9 true).run Tryz.prog w = .ok (.tuple #[v, .bool true]) w := by kernel_rfl
theorem x_i_str (v : Value) (w : World) : (Instr.typeAssert (.iface 3 v) 20 9 true).run Tryz.prog w = .ok (.tuple #[.string ⟨#[]⟩, .bool false]) w := by kernel_rfl
theorem x_err (v : Value) (w : World) : (Instr.typeAssert (.iface 44 v) 20 44 true).run Tryz.prog w = .ok (.tuple #[v, .bool true]) w := by kernel_rfl

/-- A refusal of indexFunc's. -/
def Refused1 (w : World) (e : Ending) (w' : World) : Prop := ∃ p, e = .returned (.iface 44 (.pointer p)) ∧ Below w.heap.size w w'

set_option maxRecDepth 100000 in
set_option maxHeartbeats 800000 in
theorem refStrInt_any (s : ByteArray) (x : Int) (w : World) :
    Calls Tryz.prog 29 #[.iface 9 (.string s), .iface 3 (.int .i64 x)] w (Refused1 w) := by
  have h1 := fun (v : Value) (w : World) => x_s_nil v w
  have h2 := fun (v : Value) (w : World) => x_s_arr v w
  have h3 := fun (v : Value) (w : World) => x_s_str v w
  have h4 := fun (v : Value) (w : World) => x_i_str v w
  have mk := fun (x : Value) (w : World) => run_makeInterface (P := Tryz.prog) w 44 x (by kernel_rfl)
  have mk2 := fun (x : Value) (w : World) => run_makeInterface (P := Tryz.prog) w 9 x (by kernel_rfl)
  go_enter Tryz.func29, Tryz.ntmps29
  go_wp2_with (first | fail | go_in)
  go_ret
  exact ⟨_, rfl, (Below.refl _ _).alloc (Nat.le_refl _) _⟩

set_option maxRecDepth 100000 in
set_option maxHeartbeats 800000 in
theorem refInt_any (x : Int) (t : TypeId) (v : Value) (w : World) :
    Calls Tryz.prog 29 #[.iface 3 (.int .i64 x), .iface t v] w (Refused1 w) := by
  have h1 := fun (v : Value) (w : World) => x_i_nil v w
  have h2 := fun (v : Value) (w : World) => i_arr v w
  have h4 := fun (v : Value) (w : World) => x_i_str v w
  have mk := fun (x : Value) (w : World) => run_makeInterface (P := Tryz.prog) w 44 x (by kernel_rfl)
  go_enter Tryz.func29, Tryz.ntmps29
  go_wp2_with (first | fail | go_in)
  go_ret
  exact ⟨_, rfl, (Below.refl _ _).alloc (Nat.le_refl _) _⟩

theorem zzRef1_any (s : ByteArray) (x : Int) (w : World) :
    Calls Tryz.prog 23 #[.string s, .int .i64 x] w fun e w' => e = .returned (.bool true) ∧ Below w.heap.size w w' := by
  have h1 := fun (v : Value) (w : World) => x_err v w
  have mk1 := fun (x : Value) (w : World) => run_makeInterface (P := Tryz.prog) w 9 x (by kernel_rfl)
  have mk2 := fun (x : Value) (w : World) => run_makeInterface (P := Tryz.prog) w 3 x (by kernel_rfl)
  go_enter Tryz.func23, Tryz.ntmps23
  go_wp2_with fail
  refine (refStrInt_any s x w).mono ?_
  rintro e w' ⟨p, rfl, hb⟩
  go_wp2
  go_ret
  exact ⟨rfl, hb⟩
theorem zzRef2_any (s : ByteArray) (x : Int) (w : World) :
    Calls Tryz.prog 24 #[.int .i64 x, .string s] w fun e w' => e = .returned (.bool true) ∧ Below w.heap.size w w' := by
  have h1 := fun (v : Value) (w : World) => x_err v w
  have mk1 := fun (x : Value) (w : World) => run_makeInterface (P := Tryz.prog) w 9 x (by kernel_rfl)
  have mk2 := fun (x : Value) (w : World) => run_makeInterface (P := Tryz.prog) w 3 x (by kernel_rfl)
  go_enter Tryz.func24, Tryz.ntmps24
  go_wp2_with fail
  refine (refInt_any x _ _ w).mono ?_
  rintro e w' ⟨p, rfl, hb⟩
  go_wp2
  go_ret
  exact ⟨rfl, hb⟩
theorem zzRef3_any (x : Int) (a : Option Addr) (c : Nat) (vs : List Int) (w : World) (hl : vs.length ≤ 65536) (r : Row w a (intV vs)) :
    Calls Tryz.prog 25 #[.int .i64 x, .slice a vs.length c] w fun e w' => e = .returned (.bool true) ∧ Below w.heap.size w w' := by
  have h1 := fun (v : Value) (w : World) => x_err v w
  have mk1 := fun (x : Value) (w : World) => run_makeInterface (P := Tryz.prog) w 41 x (by kernel_rfl)
  have mk2 := fun (x : Value) (w : World) => run_makeInterface (P := Tryz.prog) w 3 x (by kernel_rfl)
  go_enter Tryz.func25, Tryz.ntmps25
  go_wp2_with fail
  refine (toAny_any a c vs w (by omega) r).mono ?_
  rintro e w1 ⟨a1, c1, n1, hn1, rfl, hown1, hb1, _⟩
  clear hown1 r
  go_wp2_with fail
  refine (refInt_any x _ _ w1).mono ?_
  rintro e w' ⟨p, rfl, hb⟩
  go_wp2
  go_ret
  exact ⟨rfl, hb1.trans (hb.mono hb1.size)⟩

set_option maxRecDepth 100000 in
set_option maxHeartbeats 1600000 in
theorem law_FnIndexFuncScalarNullAndRefusals (a : Option Addr) (cap : Nat) (vs : List Int) (x : Int) (s : ByteArray) (w : World) (hl : vs.length ≤ 140737488351232) (ha : a = none → vs = []) (hcap : a = none → cap = 0) (hrow : Row w a (intV vs)) (hs : s.size ≤ 140737488355328) :
    Calls Tryz.prog 7 #[.slice a vs.length cap, .int .i64 x, .string s] w (Holds w) := by
  obtain ⟨i0, hi, hz0, hz1, hz2⟩ := info_parts Tryz.infoIntC
  have HA : Hid (a = none → vs = []) := ha
  have HC : Hid (a = none → cap = 0) := hcap
  clear ha hcap
  go_enter Tryz.func7, Tryz.ntmps7
  go_wp2_with fail
  refine (bytesS_any a cap vs.length x s w hl hs).mono ?_
  rintro e w' ⟨⟨b, rfl⟩, rfl⟩
  cases b with
  | false =>
    go_wp2
    go_ret
    exact ⟨rfl, Below.refl _ _⟩
  | true =>
  by_cases h16 : 65536 < vs.length
  · go_wp2_with fail
    go_ret
    exact ⟨rfl, Below.refl _ _⟩
  by_cases h17 : 524288 < s.size
  · go_wp2_with fail
    go_ret
    exact ⟨rfl, Below.refl _ _⟩
  have hl2 : vs.length ≤ 65536 := by omega
  have hs2 : s.size ≤ 524288 := by omega
  clear h16 h17 hs
  go_wp2_with fail
  refine (clone_any a cap vs w (by omega) HA.out HC.out hrow).mono ?_
  rintro e w4 ⟨_, rfl, a1, c1, rfl, r1, hb1⟩
  clear hrow
  go_wp2_with (at_make; refine wpList_make_full _ rfl _ _ 22 rfl w4.heap.size 3 i0 (.int .i64 0) 1 Tryz.underlying22 hi hz0 hz1 _ _ _ _ 0 rfl rfl rfl rfl ?c1 ?c2 ?c3 ?_)
  case c1 => rw [hz2]; omega
  case c2 => unfold maxLen; omega
  case c3 => omega
  intro w5 hown hgrow
  have hb0 : Below w4.heap.size w4 w5 := (Below.refl _ _).grown hgrow (Nat.le_refl _) (by intro k hk; cases hk)
  have hown0 : w5.ownsRow w4.heap.size 3 1 (.slice (some ⟨w4.heap.size, 0, none⟩) 0 0) (intV (occK vs [x] 0)).length (intV (occK vs [x] 0)) := by
    simpa [occK_zero, intV, Value.cells, toList_madeCells_one] using hown
  clear hown hgrow
  go_wp2_with fail
  go_loopw [7, 8] (fun v i wr => ∃ k : Nat, k ≤ vs.length ∧ i = .int .i64 k ∧ wr.ownsRow w4.heap.size 3 1 v (intV (occK vs [x] k)).length (intV (occK vs [x] k)) ∧ Below w4.heap.size w4 wr)
    (fun _ i _ => vs.length - (intOf i).toNat)
  case atStart => exact ⟨0, by omega, rfl, hown0, hb0⟩
  case round =>
    clear hown0 hb0
    obtain ⟨k, hk, rfl, hown, hb⟩ := hrel
    have hsz : w4.heap.size ≤ wr.heap.size := hb.size
    have hlen := occK_len vs [x] k
    have hl3 := intV_len (occK vs [x] k)
    have HL : Hid ((intV (occK vs [x] k)).length ≤ 65537) := by show _ ≤ _; omega
    clear hlen hl3
    by_cases hlt : k < vs.length
    · obtain ⟨b, off, rfl, hbw, hc⟩ := r1.at (k := k) (by rw [intV_len]; exact hlt)
      have hck : wr.cell? ⟨b, off + k, none⟩ = some (.int .i64 vs[k]) := (hb.cell (p := ⟨b, off + k, none⟩) hbw).trans (hc k _ (intV_get vs hlt))
      clear hc
      have hmd : (vs.drop k).take 1 = [vs[k]] := by rw [List.drop_eq_getElem_cons hlt]; rfl
      by_cases hx : vs[k] = x
      · have hm : matchAt vs [x] k = true := by unfold matchAt; rw [decide_eq_true_eq]; show (vs.drop k).take 1 = [x]; rw [hmd, hx]
        have HO : Hid (occK vs [x] (k + 1) = occK vs [x] k ++ [(k : Int)]) := occK_hit vs [x] k hm
        have hxe : (vs[k] == x) = true := by rw [hx]; exact beq_self_eq_true x
        clear hm hx hmd
        go_wp2_with (at_builtin; refine wpList_append_own _ rfl _ _ 22 rfl w4.heap.size 3 i0 (.int .i64 0) 1 8 Tryz.underlying22 hi hz0 hz1 hz2 rfl (by decide) _ _ _ rfl (hown.alloc _) ⟨wr.heap.size, 0, none⟩ 1 1 [.int .i64 k] rfl rfl (cells_new _ [.int .i64 k] _) (fun u hu => by simp at hu; subst hu; rfl) ?_ ?_ ?_ ?_)
        · have := HL.out; unfold maxLen; omega
        · have := HL.out; omega
        · simp; omega
        intro v3 w6 hown3 hgrow3 _
        have hb3 := below_own' (hb.alloc hsz _) (by simp; omega) (hown.alloc _) hgrow3
        have R : w6.ownsRow w4.heap.size 3 1 v3 (intV (occK vs [x] (k + 1))).length (intV (occK vs [x] (k + 1))) := by
          rw [HO.out]
          simpa [intV] using hown3
        clear hown hown3 hgrow3 hb
        go_wp2
        go_roundw
        case rel => exact ⟨k + 1, by omega, by go_num, R, hb3⟩
        case measure => simp [intOf]; omega
      · have hm : matchAt vs [x] k = false := by
          unfold matchAt
          rw [decide_eq_false_iff_not]
          show ¬ (vs.drop k).take 1 = [x]
          rw [hmd]
          intro e
          exact hx (List.cons.inj e).1
        have HO : Hid (occK vs [x] (k + 1) = occK vs [x] k) := occK_miss vs [x] k hm
        have R : wr.ownsRow w4.heap.size 3 1 u7 (intV (occK vs [x] (k + 1))).length (intV (occK vs [x] (k + 1))) := by rw [HO.out]; exact hown
        have hxe : (vs[k] == x) = false := beq_eq_false_iff_ne.2 hx
        clear hm hx hmd hown
        go_wp2
        go_roundw
        case rel => exact ⟨k + 1, by omega, by go_num, R, hb⟩
        case measure => simp [intOf]; omega
    · have hk' : k = vs.length := by omega
      subst hk'
      have hocc : occK vs [x] vs.length = occs vs [x] := by unfold occs; simp
      rw [hocc] at hown
      obtain ⟨a5, c5, rfl⟩ : ∃ a5 c5, u7 = .slice a5 (intV (occs vs [x])).length c5 := by
        rcases hown.2 with ⟨h, h0⟩ | ⟨g, cap', cur, h, _⟩
        · exact ⟨none, 0, by rw [h, h0]⟩
        · exact ⟨_, _, h⟩
      have r5 := row_any hown
      rw [intV_len]
      have r1z := r1.below (Nat.le_refl _) hb
      have hbz := hb1.trans (hb.mono hb1.size)
      have hlo := occs_len vs [x]
      clear hown hb hocc HL r1
      go_wp2_with fail
      refine (zzScalar_any a1 c1 vs x wr (by omega) r1z).mono ?_
      rintro e w6 ⟨a6, c6, rfl, r6, hb6⟩
      have r5' := r5.below (Nat.le_refl _) hb6
      have r1y := r1z.below (Nat.le_refl _) hb6
      have hb7 := hbz.trans (hb6.mono hbz.size)
      clear r5 r1z hbz hb6
      go_wp2_with fail
      refine (eqInts_any a6 a5 c6 c5 (occs vs [x]) (occs vs [x]) w6 (by omega) r6 r5' rfl).mono ?_
      rintro e w7 ⟨rfl, hd7⟩
      have r1x := r1y.drawn hd7
      have hb8 := hb7.trans (hd7.below _)
      clear r6 r5' r1y hb7 hd7
      go_wp2_with fail
      refine (zzNull_any x w7).mono ?_
      rintro e w8 ⟨rfl, rfl⟩
      go_wp2_with fail
      refine (zzNullArr_any a1 c1 vs w7 (by omega) r1x).mono ?_
      rintro e w8 ⟨rfl, hb9⟩
      have r1v := r1x.below (Nat.le_refl _) hb9
      have hb10 := hb8.trans (hb9.mono hb8.size)
      clear r1x hb8 hb9
      go_wp2_with fail
      refine (zzRef1_any s x w8).mono ?_
      rintro e w9 ⟨rfl, hb11⟩
      have r1t := r1v.below (Nat.le_refl _) hb11
      have hb12 := hb10.trans (hb11.mono hb10.size)
      clear r1v hb10 hb11
      go_wp2_with fail
      refine (zzRef2_any s x w9).mono ?_
      rintro e w10 ⟨rfl, hb13⟩
      have r1s := r1t.below (Nat.le_refl _) hb13
      have hb14 := hb12.trans (hb13.mono hb12.size)
      clear r1t hb12 hb13
      go_wp2_with fail
      refine (zzRef3_any x a1 c1 vs w10 (by omega) r1s).mono ?_
      rintro e w11 ⟨rfl, hb15⟩
      go_wp2
      go_ret
      exact ⟨rfl, hb14.trans (hb15.mono hb14.size)⟩
end Go.Proofs.YtbhjgdapmflkiaaGreatDoor
