/-
  index over two arrays of ints: the first position at which the needle occurs, or nil (folder n001_9).
-/
import Derived.Test.YtnboibamehjdgaaGreatDoorIdx4
namespace Go.Proofs.YtnboibamehjdgaaGreatDoor
open Go Go.RowKit

theorem occK_more (vs xs : List Int) (m : Nat) : ∀ d, ∃ r, occK vs xs (m + d) = occK vs xs m ++ r
  | 0 => ⟨[], by simp⟩
  | d + 1 => by
    obtain ⟨r, hr⟩ := occK_more vs xs m d
    rcases hm : matchAt vs xs (m + d) with _ | _
    · exact ⟨r, by rw [← Nat.add_assoc, occK_miss _ _ _ hm, hr]⟩
    · exact ⟨r ++ [((m + d : Nat) : Int)], by rw [← Nat.add_assoc, occK_hit _ _ _ hm, hr, List.append_assoc]⟩
theorem occs_head (vs xs : List Int) (k : Nat) (h0 : xs.length ≠ 0) (hk : k + xs.length ≤ vs.length) (hn : occK vs xs k = []) (hm : matchAt vs xs k = true) : ∃ r, occs vs xs = (k : Int) :: r := by
  obtain ⟨r, hr⟩ := occK_more vs xs (k + 1) (vs.length - xs.length - k)
  refine ⟨r, ?_⟩
  unfold occs
  rw [if_neg h0, show vs.length + 1 - xs.length = k + 1 + (vs.length - xs.length - k) by omega, hr, occK_hit _ _ _ hm, hn]
  rfl

/-- The first one as an interface value, or nil. -/
def firstV : List Int → Value
  | [] => .nilIface
  | x :: _ => .iface 3 (.int .i64 x)

set_option maxRecDepth 100000 in
set_option maxHeartbeats 1600000 in
theorem index1_any (a1 a2 : Option Addr) (c1 c2 : Nat) (vs xs : List Int) (w : World) (hl1 : vs.length ≤ 65536) (hl2 : xs.length ≤ 65536) (hc1 : vs.length ≤ c1) (r1 : Row w a1 (anyI vs)) (r2 : Row w a2 (anyI xs)) :
    Calls Tryz.prog 26 #[.slice a1 vs.length c1, .slice a2 xs.length c2] w fun e w' => e = .returned (firstV (occs vs xs)) ∧ Below w.heap.size w w' := by
  have mk := fun (x : Value) (w : World) => run_makeInterface (P := Tryz.prog) w 40 x (by kernel_rfl)
  have mk2 := fun (x : Value) (w : World) => run_makeInterface (P := Tryz.prog) w 3 x (by kernel_rfl)
  by_cases h0 : xs.length = 0
  · have hx : xs = [] := List.eq_nil_of_length_eq_zero h0
    subst hx
    go_enter Tryz.func26, Tryz.ntmps26
    go_wp2
    go_ret
    exact ⟨rfl, Below.refl _ _⟩
  · have hocc : Hid (occs vs xs = occK vs xs (vs.length + 1 - xs.length)) := by show occs vs xs = _; unfold occs; rw [if_neg h0]
    have hpos : 0 < xs.length := by omega
    have hne : ((xs.length : Int) == 0) = false := beq_eq_false_iff_ne.2 (by omega)
    go_enter Tryz.func26, Tryz.ntmps26
    go_wp2
    go_loopw [15] (fun i wr => ∃ k : Nat, (k = 0 ∨ k + xs.length ≤ vs.length + 1) ∧ i = .int .i64 k ∧ Hid (occK vs xs k = []) ∧ Below w.heap.size w wr)
      (fun i _ => vs.length + 1 - (intOf i).toNat)
    case atStart => exact ⟨0, .inl rfl, rfl, rfl, Below.refl _ _⟩
    case round =>
      obtain ⟨k, hk, rfl, hn, hb⟩ := hrel
      have hsz : w.heap.size ≤ wr.heap.size := hb.size
      by_cases hlt : k + xs.length ≤ vs.length
      · obtain ⟨b, off, rfl, hbw, hc⟩ := r1.at (k := k) (by rw [anyI_len]; omega)
        have hsl := fun w => slice_mid b off vs.length c1 k xs.length hpos (by omega) w
        have hc' : ∀ j u, (anyI vs)[j]? = some u → wr.cell? ⟨b, off + j, none⟩ = some u := fun j u hu => (hb.cell (p := ⟨b, off + j, none⟩) hbw).trans (hc j u hu)
        have R1 := Row.sub (w := wr) (b := b) (off := off) (vs := vs) (Nat.lt_of_lt_of_le hbw hsz) hc' k xs.length
        have R2 := r2.below (Nat.le_refl _) hb
        have e1 := take_drop_len vs k xs.length hlt
        have HC := compareArr_any (some ⟨b, off + k, none⟩) a2 (c1 - k) c2 ((vs.drop k).take xs.length) xs wr (by omega) (by omega) R1 R2
        rw [e1] at HC
        have HC' : Hid (Calls Tryz.prog 27 _ wr _) := HC
        clear HC R1 R2 e1 hc hc'
        obtain ⟨c, hcc⟩ : ∃ c, c = cmpL ((vs.drop k).take xs.length) xs := ⟨_, rfl⟩
        rw [← hcc] at HC'
        have HCC : Hid (c = cmpL ((vs.drop k).take xs.length) xs) := hcc
        clear hcc
        by_cases hz : c = 0
        · have hm : matchAt vs xs k = true := by
            unfold matchAt
            rw [decide_eq_true_eq]
            exact (cmpL_zero _ _).1 (HCC.out.symm.trans hz)
          obtain ⟨rest, HO⟩ := occs_head vs xs k h0 hlt hn.out hm
          have HO' : Hid (occs vs xs = (k : Int) :: rest) := HO
          clear HO hm
          subst hz
          go_wp2_with (go_at_call 27; refine HC'.out.mono ?_; rintro e w2 ⟨rfl, hd⟩)
          go_ret
          refine ⟨?_, hb.trans (hd.below _)⟩
          rw [HO'.out]
          rfl
        · have hm : matchAt vs xs k = false := by
            unfold matchAt
            rw [decide_eq_false_iff_not]
            intro e
            exact hz (HCC.out.trans ((cmpL_zero _ _).2 e))
          have HO : Hid (occK vs xs (k + 1) = []) := (occK_miss vs xs k hm).trans hn.out
          have hce : (c == 0) = false := beq_eq_false_iff_ne.2 hz
          clear hm
          go_wp2_with (go_at_call 27; refine HC'.out.mono ?_; rintro e w2 ⟨rfl, hd⟩)
          go_roundw
          case rel => exact ⟨k + 1, .inr (by omega), by go_num, HO, hb.trans (hd.below _)⟩
          case measure => simp [intOf]; omega
      · have hk' : k = vs.length + 1 - xs.length := by omega
        have HO : Hid (occs vs xs = []) := by show occs vs xs = []; rw [hocc.out, ← hk']; exact hn.out
        go_wp2
        go_ret
        refine ⟨?_, hb⟩
        rw [HO.out]
        rfl

set_option maxRecDepth 100000 in
set_option maxHeartbeats 1600000 in
theorem funcIndexArr_any (a1 a2 : Option Addr) (c1 c2 : Nat) (vs xs : List Int) (w : World) (hl1 : vs.length ≤ 65536) (hl2 : xs.length ≤ 65536) (hc1 : vs.length ≤ c1) (r1 : Row w a1 (anyI vs)) (r2 : Row w a2 (anyI xs)) :
    Calls Tryz.prog 21 #[.iface 40 (.slice a1 vs.length c1), .iface 40 (.slice a2 xs.length c2)] w fun e w' => e = .returned (firstV (occs vs xs)) ∧ Below w.heap.size w w' := by
  have h1 := fun (v : Value) (w : World) => a_nil v w
  have h2 := fun (v : Value) (w : World) => a_arr v w
  have HI : Hid (Calls Tryz.prog 26 _ w _) := index1_any a1 a2 c1 c2 vs xs w hl1 hl2 hc1 r1 r2
  obtain ⟨fv, hfv⟩ : ∃ fv, fv = firstV (occs vs xs) := ⟨_, rfl⟩
  rw [← hfv] at HI ⊢
  clear r1 r2 hfv
  go_enter Tryz.func21, Tryz.ntmps21
  go_wp2_with (first | (go_at_call 26; refine HI.out.mono ?_; rintro e w' ⟨rfl, hb⟩) | go_in)
  go_ret
  exact ⟨rfl, hb⟩

theorem i_int2 (v : Value) (w : World) : (Instr.typeAssert (.iface 3 v) 20 3 true).run Tryz.prog w = .ok (.tuple #[v, .bool true]) w := by kernel_rfl
theorem i_nil (v : Value) (w : World) : (binOp .eql 20 (.iface 3 v) .nilIface).run Tryz.prog w = .ok (.bool false) w := by kernel_rfl

/-- What zzIntOrNil answers. -/
def intOrNil : List Int → Value
  | [] => .tuple #[.int .i64 0, .bool false, .bool true]
  | x :: _ => .tuple #[.int .i64 x, .bool true, .bool false]

theorem zzIntOrNil_any (l : List Int) (w : World) : Calls Tryz.prog 20 #[firstV l] w fun e w' => e = .returned (intOrNil l) ∧ w = w' := by
  have h1 := fun (w : World) => nil_nil w
  have h2 := fun (v : Value) (w : World) => i_nil v w
  have h3 := fun (v : Value) (w : World) => i_int2 v w
  cases l with
  | nil =>
    show Calls Tryz.prog 20 #[.nilIface] w fun e w' => e = .returned (.tuple #[.int .i64 0, .bool false, .bool true]) ∧ w = w'
    go_enter Tryz.func20, Tryz.ntmps20
    go_wp2
    go_ret3
    exact ⟨rfl, rfl⟩
  | cons x l =>
    show Calls Tryz.prog 20 #[.iface 3 (.int .i64 x)] w fun e w' => e = .returned (.tuple #[.int .i64 x, .bool true, .bool false]) ∧ w = w'
    go_enter Tryz.func20, Tryz.ntmps20
    go_wp2
    go_ret3
    exact ⟨rfl, rfl⟩

set_option maxRecDepth 100000 in
set_option maxHeartbeats 1600000 in
theorem zzIndexInts_any (a b : Option Addr) (c d : Nat) (vs xs : List Int) (w : World) (hl : vs.length ≤ 65536) (hl2 : xs.length ≤ 65536) (r : Row w a (intV vs)) (q : Row w b (intV xs)) :
    Calls Tryz.prog 19 #[.slice a vs.length c, .slice b xs.length d] w fun e w' => e = .returned (intOrNil (occs vs xs)) ∧ Below w.heap.size w w' := by
  have mk := fun (x : Value) (w : World) => run_makeInterface (P := Tryz.prog) w 40 x (by kernel_rfl)
  obtain ⟨v1, v2, v3, hv⟩ : ∃ v1 v2 v3, intOrNil (occs vs xs) = .tuple #[v1, v2, v3] := by cases occs vs xs <;> exact ⟨_, _, _, rfl⟩
  have HV : Hid (intOrNil (occs vs xs) = .tuple #[v1, v2, v3]) := hv
  rw [hv]
  clear hv
  go_enter Tryz.func19, Tryz.ntmps19
  go_wp2_with fail
  refine (toAny_any a c vs w (by omega) r).mono ?_
  rintro e w1 ⟨a1, c1, n1, hn1, rfl, hown1, hb1, _⟩
  rw [anyI_len] at hn1
  subst hn1
  have r1 : Row w1 a1 (anyI vs) := made_row (anyI_len vs).symm hown1
  have hc1' : vs.length ≤ c1 := own_le_cap hown1
  have q1 := q.below (Nat.le_refl _) hb1
  clear hown1 r q
  go_wp2_with fail
  refine (toAny_any b d xs w1 (by omega) q1).mono ?_
  rintro e w2 ⟨b2, d2, n2, hn2, rfl, hown2, hb2, _⟩
  rw [anyI_len] at hn2
  subst hn2
  have q2 : Row w2 b2 (anyI xs) := made_row (anyI_len xs).symm hown2
  have r2 := r1.below (Nat.le_refl _) hb2
  have hb12 := hb1.trans (hb2.mono hb1.size)
  clear hown2 r1 q1 hb1 hb2
  go_wp2_with fail
  refine (funcIndexArr_any a1 b2 c1 d2 vs xs w2 hl hl2 hc1' r2 q2).mono ?_
  rintro e w3 ⟨rfl, hb3⟩
  have hb13 := hb12.trans (hb3.mono hb12.size)
  clear r2 q2 hb12 hb3
  go_wp2_with fail
  refine (zzIntOrNil_any (occs vs xs) w3).mono ?_
  rintro e w4 ⟨rfl, rfl⟩
  rw [HV.out]
  go_wp2
  go_ret3
  exact ⟨rfl, hb13⟩
end Go.Proofs.YtnboibamehjdgaaGreatDoor
