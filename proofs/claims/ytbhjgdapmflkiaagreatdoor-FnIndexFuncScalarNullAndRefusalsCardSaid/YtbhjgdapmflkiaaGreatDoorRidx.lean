/-
  rindex over two arrays of ints: the last position at which the needle occurs, or nil; does the needle occur at a position (folder n001_82).
-/
import Derived.Test.YtbhjgdapmflkiaaGreatDoorIdx3
import Derived.Test.YtbhjgdapmflkiaaGreatDoorClone
namespace Go.Proofs.YtbhjgdapmflkiaaGreatDoor
open Go Go.RowKit

/-- The last one as an interface value, or nil. -/
def lastV (l : List Int) : Value := match l.getLast? with
  | none => .nilIface
  | some x => .iface 3 (.int .i64 x)

set_option maxRecDepth 100000 in
set_option maxHeartbeats 1600000 in
theorem rindex1_any (a1 a2 : Option Addr) (c1 c2 : Nat) (vs xs : List Int) (w : World) (hl1 : vs.length ≤ 65536) (hl2 : xs.length ≤ 65536) (hc1 : vs.length ≤ c1) (r1 : Row w a1 (anyI vs)) (r2 : Row w a2 (anyI xs)) :
    Calls Tryz.prog 31 #[.slice a1 vs.length c1, .slice a2 xs.length c2] w fun e w' => e = .returned (lastV (occs vs xs)) ∧ Below w.heap.size w w' := by
  have mk := fun (x : Value) (w : World) => run_makeInterface (P := Tryz.prog) w 41 x (by kernel_rfl)
  have mk2 := fun (x : Value) (w : World) => run_makeInterface (P := Tryz.prog) w 3 x (by kernel_rfl)
  by_cases h0 : xs.length = 0
  · have hx : xs = [] := List.eq_nil_of_length_eq_zero h0
    subst hx
    go_enter Tryz.func31, Tryz.ntmps31
    go_wp2
    go_ret
    exact ⟨rfl, Below.refl _ _⟩
  · have hocc : Hid (occs vs xs = occK vs xs (vs.length + 1 - xs.length)) := by show occs vs xs = _; unfold occs; rw [if_neg h0]
    have hpos : 0 < xs.length := by omega
    have hne : ((xs.length : Int) == 0) = false := beq_eq_false_iff_ne.2 (by omega)
    go_enter Tryz.func31, Tryz.ntmps31
    go_wp2
    go_loopw [5] (fun v wr => ∃ i : Int, v = .int .i64 i ∧ -65536 ≤ i ∧ i ≤ 65536 ∧ Hid ((i < 0 → occs vs xs = []) ∧ (∀ k : Nat, i = k → occs vs xs = occK vs xs (k + 1) ∧ k + xs.length ≤ vs.length)) ∧ Below w.heap.size w wr)
      (fun i _ => (intOf i + 1).toNat)
    case atStart =>
      refine ⟨(vs.length : Int) - xs.length, rfl, by omega, by omega, ?_, Below.refl _ _⟩
      show _ ∧ _
      refine ⟨fun h => ?_, fun k hk => ⟨?_, by omega⟩⟩
      · rw [hocc.out, show vs.length + 1 - xs.length = 0 by omega]; rfl
      · rw [hocc.out]; congr 1 <;> omega
    case round =>
      obtain ⟨i, rfl, hi1, hi2, hn, hb⟩ := hrel
      have hsz : w.heap.size ≤ wr.heap.size := hb.size
      by_cases hlt : 0 ≤ i
      · obtain ⟨k, rfl⟩ : ∃ k : Nat, i = k := ⟨i.toNat, by omega⟩
        obtain ⟨hk1, hk2⟩ := hn.out.2 k rfl
        have HK : Hid (occs vs xs = occK vs xs (k + 1)) := hk1
        clear hn hk1
        obtain ⟨b, off, rfl, hbw, hc⟩ := r1.at (k := k) (by rw [anyI_len]; omega)
        have hsl := fun w => slice_mid b off vs.length c1 k xs.length hpos (by omega) w
        have hc' : ∀ j u, (anyI vs)[j]? = some u → wr.cell? ⟨b, off + j, none⟩ = some u := fun j u hu => (hb.cell (p := ⟨b, off + j, none⟩) hbw).trans (hc j u hu)
        have R1 := Row.sub (w := wr) (b := b) (off := off) (vs := vs) (Nat.lt_of_lt_of_le hbw hsz) hc' k xs.length
        have R2 := r2.below (Nat.le_refl _) hb
        have e1 := take_drop_len vs k xs.length hk2
        have HC := compareArr_any (some ⟨b, off + k, none⟩) a2 (c1 - k) c2 ((vs.drop k).take xs.length) xs wr (by omega) (by omega) R1 R2
        rw [e1] at HC
        have HC' : Hid (Calls Tryz.prog 32 _ wr _) := HC
        clear HC R1 R2 e1 hc hc'
        obtain ⟨c, hcc⟩ : ∃ c, c = cmpL ((vs.drop k).take xs.length) xs := ⟨_, rfl⟩
        rw [← hcc] at HC'
        have HCC : Hid (c = cmpL ((vs.drop k).take xs.length) xs) := hcc
        clear hcc
        by_cases hz : c = 0
        · have hm : matchAt vs xs k = true := by
            unfold matchAt
            rw [decide_eq_true_eq]
            exact (cmpL_zero _ _).1 (HCC.out.symm.trans hz)
          have HO : Hid (lastV (occs vs xs) = .iface 3 (.int .i64 k)) := by
            show _ = _
            rw [HK.out, occK_hit vs xs k hm]
            unfold lastV
            rw [List.getLast?_append, List.getLast?_singleton]
            rfl
          clear hm
          subst hz
          go_wp2_with (go_at_call 32; refine HC'.out.mono ?_; rintro e w2 ⟨rfl, hd⟩)
          go_ret
          refine ⟨?_, hb.trans (hd.below _)⟩
          rw [HO.out]
          rfl
        · have hm : matchAt vs xs k = false := by
            unfold matchAt
            rw [decide_eq_false_iff_not]
            intro e
            exact hz (HCC.out.trans ((cmpL_zero _ _).2 e))
          have HO : Hid (occs vs xs = occK vs xs k) := HK.out.trans (occK_miss vs xs k hm)
          have hce : (c == 0) = false := beq_eq_false_iff_ne.2 hz
          clear hm
          go_wp2_with (go_at_call 32; refine HC'.out.mono ?_; rintro e w2 ⟨rfl, hd⟩)
          go_roundw
          case rel =>
            refine ⟨(k : Int) - 1, by first | rfl | go_num, by omega, by omega, ?_, hb.trans (hd.below _)⟩
            show _ ∧ _
            refine ⟨fun h => ?_, fun j hj => ⟨?_, by omega⟩⟩
            · rw [HO.out, show k = 0 by omega, occK_zero]
            · rw [HO.out]; congr 1 <;> omega
          case measure => simp [intOf] <;> omega
      · have HO : Hid (occs vs xs = []) := hn.out.1 (by omega)
        go_wp2
        go_ret
        refine ⟨?_, hb⟩
        rw [HO.out]
        rfl

set_option maxRecDepth 100000 in
set_option maxHeartbeats 1600000 in
theorem funcRindexArr_any (a1 a2 : Option Addr) (c1 c2 : Nat) (vs xs : List Int) (w : World) (hl1 : vs.length ≤ 65536) (hl2 : xs.length ≤ 65536) (hc1 : vs.length ≤ c1) (r1 : Row w a1 (anyI vs)) (r2 : Row w a2 (anyI xs)) :
    Calls Tryz.prog 26 #[.iface 41 (.slice a1 vs.length c1), .iface 41 (.slice a2 xs.length c2)] w fun e w' => e = .returned (lastV (occs vs xs)) ∧ Below w.heap.size w w' := by
  have h1 := fun (v : Value) (w : World) => a_nil v w
  have h2 := fun (v : Value) (w : World) => a_arr v w
  have HI : Hid (Calls Tryz.prog 31 _ w _) := rindex1_any a1 a2 c1 c2 vs xs w hl1 hl2 hc1 r1 r2
  obtain ⟨fv, hfv⟩ : ∃ fv, fv = lastV (occs vs xs) := ⟨_, rfl⟩
  rw [← hfv] at HI ⊢
  clear r1 r2 hfv
  go_enter Tryz.func26, Tryz.ntmps26
  go_wp2_with (first | (go_at_call 31; refine HI.out.mono ?_; rintro e w' ⟨rfl, hb⟩) | go_in)
  go_ret
  exact ⟨rfl, hb⟩

theorem i_int2 (v : Value) (w : World) : (Instr.typeAssert (.iface 3 v) 20 3 true).run Tryz.prog w = .ok (.tuple #[v, .bool true]) w := by kernel_rfl
theorem nil_int2 (w : World) : (Instr.typeAssert .nilIface 20 3 true).run Tryz.prog w = .ok (.tuple #[.int .i64 0, .bool false]) w := by kernel_rfl

/-- The last one, or 0; is there one. -/
def lastOr (l : List Int) : Int := (l.getLast?).getD 0
def fnd (l : List Int) : Bool := !l.isEmpty
theorem row_any {w w' : World} {e : TypeId} {a : Option Addr} {cap : Nat} {vs : List Value} (h : w'.ownsRow w.heap.size e 1 (.slice a vs.length cap) vs.length vs) : Row w' a vs := made_row rfl h
theorem own_le_cap {w : World} {base n m cap : Nat} {e : TypeId} {a : Option Addr} {xs : List Value} (h : w.ownsRow base e 1 (.slice a m cap) n xs) : m ≤ cap := by
  rcases h.2 with ⟨h, _⟩ | ⟨g, cap', cur, h, _, _, hle, _⟩
  · simp only [Value.slice.injEq] at h; omega
  · simp only [Value.slice.injEq] at h; omega
theorem occs_len (vs xs : List Int) : (occs vs xs).length ≤ vs.length + 1 := by
  unfold occs
  split
  · simp
  · exact Nat.le_trans (occK_len vs xs _) (by omega)

set_option maxRecDepth 100000 in
set_option maxHeartbeats 1600000 in
theorem zzRindexInts_any (a b : Option Addr) (c d : Nat) (vs xs : List Int) (w : World) (hl : vs.length ≤ 65536) (hl2 : xs.length ≤ 65536) (r : Row w a (intV vs)) (q : Row w b (intV xs)) :
    Calls Tryz.prog 11 #[.slice a vs.length c, .slice b xs.length d] w fun e w' => e = .returned (.tuple #[.int .i64 (lastOr (occs vs xs)), .bool (fnd (occs vs xs))]) ∧ Below w.heap.size w w' := by
  have mk := fun (x : Value) (w : World) => run_makeInterface (P := Tryz.prog) w 41 x (by kernel_rfl)
  have h1 := fun (v : Value) (w : World) => i_int2 v w
  have h2 := fun (w : World) => nil_int2 w
  have HV : Hid (occs vs xs = [] ∧ lastV (occs vs xs) = .nilIface ∨ ∃ x, lastV (occs vs xs) = .iface 3 (.int .i64 x) ∧ lastOr (occs vs xs) = x ∧ fnd (occs vs xs) = true) := by
    show _ ∨ _
    cases h : occs vs xs with
    | nil => exact .inl ⟨rfl, rfl⟩
    | cons x l =>
      refine .inr ⟨lastOr (x :: l), ?_, rfl, rfl⟩
      unfold lastV lastOr
      cases h2 : (x :: l).getLast? with
      | none => simp at h2
      | some y => rfl
  go_enter Tryz.func11, Tryz.ntmps11
  go_wp2_with fail
  refine (toAny_any a c vs w (by omega) r).mono ?_
  rintro e w1 ⟨a1, c1, n1, hn1, rfl, hown1, hb1, _⟩
  rw [anyI_len] at hn1
  subst hn1
  have r1 : Row w1 a1 (anyI vs) := made_row (anyI_len vs).symm hown1
  have hc1' : vs.length ≤ c1 := own_le_cap hown1
  have q1 := q.below (Nat.le_refl _) hb1
  clear hown1 r q
  go_wp2_with fail
  refine (toAny_any b d xs w1 (by omega) q1).mono ?_
  rintro e w2 ⟨b2, d2, n2, hn2, rfl, hown2, hb2, _⟩
  rw [anyI_len] at hn2
  subst hn2
  have q2 : Row w2 b2 (anyI xs) := made_row (anyI_len xs).symm hown2
  have r2 := r1.below (Nat.le_refl _) hb2
  have hb12 := hb1.trans (hb2.mono hb1.size)
  clear hown2 r1 q1 hb1 hb2
  go_wp2_with fail
  refine (funcRindexArr_any a1 b2 c1 d2 vs xs w2 hl hl2 hc1' r2 q2).mono ?_
  rintro e w3 ⟨rfl, hb3⟩
  have hb13 := hb12.trans (hb3.mono hb12.size)
  clear r2 q2 hb12 hb3
  rcases HV.out with ⟨e0, e1⟩ | ⟨x, e1, e2, e3⟩
  · rw [e1]
    go_wp2
    go_ret2
    exact ⟨by rw [e0]; rfl, hb13⟩
  · rw [e1]
    go_wp2
    go_ret2
    exact ⟨by rw [e2, e3]; rfl, hb13⟩

set_option maxRecDepth 100000 in
set_option maxHeartbeats 1600000 in
theorem zzIndicesInts_any (a b : Option Addr) (c d : Nat) (vs xs : List Int) (w : World) (hl : vs.length ≤ 65536) (hl2 : xs.length ≤ 65536) (r : Row w a (intV vs)) (q : Row w b (intV xs)) :
    Calls Tryz.prog 16 #[.slice a vs.length c, .slice b xs.length d] w (FromRow w (occs vs xs)) := by
  have mk := fun (x : Value) (w : World) => run_makeInterface (P := Tryz.prog) w 41 x (by kernel_rfl)
  go_enter Tryz.func16, Tryz.ntmps16
  go_wp2_with fail
  refine (toAny_any a c vs w (by omega) r).mono ?_
  rintro e w1 ⟨a1, c1, n1, hn1, rfl, hown1, hb1, _⟩
  rw [anyI_len] at hn1
  subst hn1
  have r1 : Row w1 a1 (anyI vs) := made_row (anyI_len vs).symm hown1
  have hc1' : vs.length ≤ c1 := own_le_cap hown1
  have q1 := q.below (Nat.le_refl _) hb1
  clear hown1 r q
  go_wp2_with fail
  refine (toAny_any b d xs w1 (by omega) q1).mono ?_
  rintro e w2 ⟨b2, d2, n2, hn2, rfl, hown2, hb2, _⟩
  rw [anyI_len] at hn2
  subst hn2
  have q2 : Row w2 b2 (anyI xs) := made_row (anyI_len xs).symm hown2
  have r2 := r1.below (Nat.le_refl _) hb2
  have hb12 := hb1.trans (hb2.mono hb1.size)
  clear hown2 r1 q1 hb1 hb2
  go_wp2_with fail
  refine (funcIndicesArr_any a1 b2 c1 d2 vs xs w2 hl hl2 hc1' r2 q2).mono ?_
  rintro e w3 ⟨a3, c3, _, rfl, rfl, hown3, hb3⟩
  have r3 := row_any hown3
  have hb13 := hb12.trans (hb3.mono hb12.size)
  have hlo := occs_len vs xs
  rw [anyI_len]
  clear hown3 r2 q2 hb12 hb3
  go_wp2_with fail
  refine (fromAny_any a3 c3 (occs vs xs) w3 (by omega) r3).mono ?_
  rintro e w4 ⟨a4, c4, rfl, r4, hb4⟩
  go_wp2
  go_ret2
  exact ⟨a4, c4, rfl, r4, hb13.trans (hb4.mono hb13.size)⟩

theorem take_drop_step (vs : List Int) (i k : Nat) (h : i + k < vs.length) : (vs.drop i).take (k + 1) = (vs.drop i).take k ++ [vs[i + k]] := by
  rw [List.take_succ_eq_append_getElem (by rw [List.length_drop]; omega), List.getElem_drop]

set_option maxRecDepth 100000 in
set_option maxHeartbeats 1600000 in
theorem zzMatchAt_any (a b : Option Addr) (c d : Nat) (vs xs : List Int) (i : Nat) (w : World) (hl : vs.length ≤ 65536) (hi : i + xs.length ≤ vs.length) (r : Row w a (intV vs)) (q : Row w b (intV xs)) :
    Calls Tryz.prog 10 #[.slice a vs.length c, .slice b xs.length d, .int .i64 i] w fun e w' => e = .returned (.bool (matchAt vs xs i)) ∧ Drawn w w' := by
  go_enter Tryz.func10, Tryz.ntmps10
  go_wp2
  go_loopw [7] (fun v wr => ∃ k : Nat, k ≤ xs.length ∧ v = .int .i64 k ∧ Hid ((vs.drop i).take k = xs.take k) ∧ Drawn w wr) (fun v _ => xs.length - (intOf v).toNat)
  case atStart => exact ⟨0, by omega, rfl, rfl, Drawn.refl w⟩
  case round =>
    obtain ⟨k, hk, rfl, hm, hd⟩ := hrel
    by_cases hlt : k < xs.length
    · obtain ⟨b1, o1, rfl, _, g1⟩ := r.at (k := i + k) (by rw [intV_len]; omega)
      obtain ⟨b2, o2, rfl, _, g2⟩ := q.at (k := k) (by rw [intV_len]; exact hlt)
      have hc1 := (hd.cell _).trans (g1 (i + k) _ (intV_get vs (by omega)))
      have hc2 := (hd.cell _).trans (g2 k _ (intV_get xs hlt))
      have hi1 : (i : Int) + (k : Int) < (vs.length : Int) := by omega
      have hi2 : (k : Int) < (xs.length : Int) := by omega
      clear g1 g2
      have e1 := take_drop_step vs i k (by omega)
      have e2 : xs.take (k + 1) = xs.take k ++ [xs[k]] := by rw [List.take_succ_eq_append_getElem hlt]
      by_cases hx : vs[i + k] = xs[k]
      · have HM : Hid ((vs.drop i).take (k + 1) = xs.take (k + 1)) := by show _ = _; rw [e1, e2, hm.out, hx]
        have hxe : (vs[i + k] != xs[k]) = false := by simp [hx]
        have hxe2 : (vs[i + k] == xs[k]) = true := by simp [hx]
        clear e1 e2 hx
        go_wp2_with fail
        go_quiet (fail)
        go_wp2
        go_roundw
        case rel => exact ⟨k + 1, by omega, by go_num, HM, by first | exact hd.more _ | exact hd⟩
        case measure => simp [intOf]; omega
      · have HM : Hid (matchAt vs xs i = false) := by
          show _ = _
          unfold matchAt
          rw [decide_eq_false_iff_not]
          intro e
          have := congrArg (fun l => l.take (k + 1)) e
          simp only [List.take_take, Nat.min_eq_left (show k + 1 ≤ xs.length by omega)] at this
          rw [e1, e2, hm.out] at this
          have := List.append_cancel_left this
          exact hx (List.cons.inj this).1
        have hxe : (vs[i + k] != xs[k]) = true := by simp [hx]
        have hxe2 : (vs[i + k] == xs[k]) = false := by simp [hx]
        clear e1 e2 hx
        go_wp2_with fail
        go_quiet (fail)
        go_wp2
        go_ret
        exact ⟨by rw [HM.out]; rfl, by first | exact hd.more _ | exact hd⟩
    · have HM : Hid (matchAt vs xs i = true) := by
        show _ = _
        unfold matchAt
        rw [decide_eq_true_eq]
        have := hm.out
        rw [show k = xs.length by omega, List.take_length] at this
        exact this
      go_wp2
      go_ret
      exact ⟨by rw [HM.out]; rfl, hd⟩
end Go.Proofs.YtbhjgdapmflkiaaGreatDoor
