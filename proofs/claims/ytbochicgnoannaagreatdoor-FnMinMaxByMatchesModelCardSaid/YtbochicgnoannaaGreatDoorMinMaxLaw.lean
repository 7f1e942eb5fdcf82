/-
  FnMinMaxByMatchesModel: the law's walk (folder n001_67).
-/
import Derived.Test.YtbochicgnoannaaGreatDoorModel
namespace Go.Proofs.YtbochicgnoannaaGreatDoor
open Go Go.RowKit

theorem bytesMinMax_any (a b : Option Addr) (cap n cap2 m : Nat) (im : Bool) (w : World) (hl : n ≤ 140737488351232) (hl2 : m ≤ 140737488351232) :
    Calls Tryz.prog 11 #[.slice a n cap, .slice b m cap2, .bool im] w fun e w' => SomeBool e ∧ w = w' := by
  go_enter Tryz.func11, Tryz.ntmps11
  go_wp2
  all_goals (go_ret; exact ⟨⟨_, rfl⟩, rfl⟩)
set_option maxRecDepth 100000 in
theorem zzMinMax_any (a b : Option Addr) (c d : Nat) (vs xs : List Int) (m : Bool) (w : World) (hl : xs.length ≤ 1099511627776) (hlen : vs.length = xs.length) (r : Row w a (intV vs)) (q : Row w b (intV xs)) :
    Calls Tryz.prog 12 #[.slice a vs.length c, .slice b xs.length d, .bool m] w fun e w' => ∃ u, e = .returned u ∧ DRes m vs xs u ∧ Below w.heap.size w w' := by
  have mk := fun (x : Value) (w : World) => run_makeInterface (P := Tryz.prog) w 35 x (by kernel_rfl)
  have hlv : vs.length ≤ 1099511627776 := by omega
  have HLEN : Hid (vs.length = xs.length) := hlen
  clear hlen
  go_enter Tryz.func12, Tryz.ntmps12
  go_wp2_with fail
  refine (toAny_any a c vs w hlv r).mono ?_
  rintro e w1 ⟨_, rfl, a1, c1, rfl, r1, hb1⟩
  have q1 := q.below (Nat.le_refl _) hb1
  clear r q
  go_wp2_with fail
  refine (toAny_any b d xs w1 hl q1).mono ?_
  rintro e w2 ⟨_, rfl, a2, c2, rfl, r2, hb2⟩
  have r1' := r1.below (Nat.le_refl _) hb2
  have hb12 := hb1.trans (hb2.mono hb1.size)
  clear r1 q1 hb1 hb2
  go_wp2_with fail
  refine (minMaxBy_all a1 a2 c1 c2 vs xs m w2 hl HLEN.out r1' r2).mono ?_
  rintro e w3 ⟨v, rfl, hv, hd⟩
  have hb3 := hb12.trans (hd.below _)
  clear r1' r2
  go_wp2_with fail
  refine (decode_any m vs xs v w3 hv).mono ?_
  rintro e w4 ⟨⟨u, rfl, hu⟩, rfl⟩
  rcases hu with ⟨hx, rfl⟩ | ⟨j, hj, rfl⟩
  · go_wp2
    go_ret2
    exact ⟨_, rfl, .inl ⟨hx, rfl⟩, hb3⟩
  · generalize hg : vs.getD j 0 = g
    go_wp2
    go_ret2
    exact ⟨_, rfl, .inr ⟨j, hj, by rw [hg]; rfl⟩, hb3⟩

set_option maxRecDepth 100000 in
set_option maxHeartbeats 800000 in
theorem law_FnMinMaxByMatchesModel (a : Option Addr) (cap : Nat) (vs : List Int) (b : Option Addr) (cap2 : Nat) (xs : List Int) (im : Bool) (w : World) (hl : vs.length ≤ 140737488351232) (ha : a = none → vs = []) (hcap : a = none → cap = 0) (hrow : Row w a (intV vs))
    (hlb : xs.length ≤ 140737488351232) (hab : b = none → xs = []) (hcapb : b = none → cap2 = 0) (hrowb : Row w b (intV xs)) :
    Calls Tryz.prog 4 #[.slice a vs.length cap, .slice b xs.length cap2, .bool im] w (Holds w) := by
  have HA : Hid (a = none → vs = []) := ha
  have HC : Hid (a = none → cap = 0) := hcap
  have HA2 : Hid (b = none → xs = []) := hab
  have HC2 : Hid (b = none → cap2 = 0) := hcapb
  clear ha hcap hab hcapb
  go_enter Tryz.func4, Tryz.ntmps4
  go_wp2_with fail
  refine (bytesMinMax_any a b cap vs.length cap2 xs.length im w hl hlb).mono ?_
  rintro e w' ⟨⟨g, rfl⟩, rfl⟩
  cases g with
  | false =>
    go_wp2
    go_ret
    exact ⟨rfl, Below.refl _ _⟩
  | true =>
  by_cases h16 : 65536 < vs.length
  · go_wp2_with fail
    go_ret
    exact ⟨rfl, Below.refl _ _⟩
  by_cases h17 : 65536 < xs.length
  · go_wp2_with fail
    go_ret
    exact ⟨rfl, Below.refl _ _⟩
  have hl2 : vs.length ≤ 65536 := by omega
  have hlb2 : xs.length ≤ 65536 := by omega
  clear h16 h17
  by_cases hlen0 : ¬ vs.length = xs.length
  · have hne : ((vs.length : Int) != (xs.length : Int)) = true := by simp; omega
    go_wp2_with fail
    go_ret
    exact ⟨rfl, Below.refl _ _⟩
  have hlen : vs.length = xs.length := by omega
  clear hlen0
  have hne : ((vs.length : Int) != (xs.length : Int)) = false := by simp [hlen]
  have HLEN : Hid (vs.length = xs.length) := hlen
  clear hlen
  go_wp2_with fail
  refine (clone_any a cap vs w (by omega) HA.out HC.out hrow).mono ?_
  rintro e w1 ⟨_, rfl, a1, c1, rfl, r1, hb1⟩
  have hrowb1 := hrowb.below (Nat.le_refl _) hb1
  clear hrow hrowb
  go_wp2_with fail
  refine (clone_any b cap2 xs w1 (by omega) HA2.out HC2.out hrowb1).mono ?_
  rintro e w2 ⟨_, rfl, a2, c2, rfl, r2, hb2⟩
  have r1' := r1.below (Nat.le_refl _) hb2
  have hb12 := hb1.trans (hb2.mono hb1.size)
  clear hrowb1 r1 hb1 hb2
  go_wp2_with fail
  refine (zzMinMax_any a1 a2 c1 c2 vs xs im w2 (by omega) HLEN.out r1' r2).mono ?_
  rintro e w3 ⟨u, rfl, hu, hb3⟩
  have r1'' := r1'.below (Nat.le_refl _) hb3
  have r2'' := r2.below (Nat.le_refl _) hb3
  have hb13 := hb12.trans (hb3.mono hb12.size)
  clear r1' r2 hb12 hb3
  rcases hu with ⟨hx, rfl⟩ | ⟨j, hj, rfl⟩
  · have hv0 : vs.length = 0 := by rw [HLEN.out, hx]; rfl
    have hv0' : ((vs.length : Int) == 0) = true := by simp [hv0]
    clear hx hv0 r1'' r2'' HLEN hne
    go_wp2_with fail
    go_ret
    exact ⟨rfl, hb13⟩
  · have HJ : Hid (Best im xs xs.length j) := hj
    have hjx := hj.1
    have hpos : 0 < xs.length := by omega
    have hvne : ((vs.length : Int) == 0) = false := beq_eq_false_iff_ne.2 (by have := HLEN.out; omega)
    have hjv : j < vs.length := by have := HLEN.out; omega
    obtain ⟨g, hg⟩ : ∃ g, g = vs.getD j 0 := ⟨_, rfl⟩
    have hgv : vs[j] = g := by rw [hg, getD_of hjv]
    have HG : Hid (vs[j] = g) := hgv
    rw [← hg]
    clear hg hj hgv
    cases im with
    | true =>
      go_wp2_with fail
      refine (minOf_any a2 c2 xs w3 (by omega) hpos r2'').mono ?_
      rintro e w4 ⟨m, hm, rfl, rfl⟩
      go_wp2_with fail
      refine (firstIdx_any a2 c2 xs m w3 (by omega) hm r2'').mono ?_
      rintro e w4 ⟨j2, hj2, rfl, hd4⟩
      obtain rfl := hj2.uniq HJ.out
      obtain ⟨b3, off, rfl, _, hc⟩ := r1''.at (k := j2) (by rw [intV_len]; exact hjv)
      have hck : w4.cell? ⟨b3, off + j2, none⟩ = some (.int .i64 g) := by rw [hd4.cell, ← HG.out]; exact hc j2 _ (intV_get vs hjv)
      have hji : (j2 : Int) < (vs.length : Int) := by omega
      have hbz := hb13.trans (hd4.below _)
      clear hc r1'' r2'' hj2 HJ HG hm hb13
      go_wp2_with fail
      go_ret
      exact ⟨rfl, hbz⟩
    | false =>
      go_wp2_with fail
      refine (maxOf_any a2 c2 xs w3 (by omega) hpos r2'').mono ?_
      rintro e w4 ⟨m, hm, rfl, rfl⟩
      go_wp2_with fail
      refine (lastIdx_any a2 c2 xs m w3 (by omega) hm r2'').mono ?_
      rintro e w4 ⟨j2, hj2, rfl, hd4⟩
      obtain rfl := hj2.uniq HJ.out
      obtain ⟨b3, off, rfl, _, hc⟩ := r1''.at (k := j2) (by rw [intV_len]; exact hjv)
      have hck : w4.cell? ⟨b3, off + j2, none⟩ = some (.int .i64 g) := by rw [hd4.cell, ← HG.out]; exact hc j2 _ (intV_get vs hjv)
      have hji : (j2 : Int) < (vs.length : Int) := by omega
      have hbz := hb13.trans (hd4.below _)
      clear hc r1'' r2'' hj2 HJ HG hm hb13
      go_wp2_with fail
      go_ret
      exact ⟨rfl, hbz⟩
end Go.Proofs.YtbochicgnoannaaGreatDoor
