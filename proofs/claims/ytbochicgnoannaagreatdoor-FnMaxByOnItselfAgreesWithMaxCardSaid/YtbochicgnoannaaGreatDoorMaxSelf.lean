/-
  max_by of a row on itself agrees with max: the law's walk (folder n001_67).
-/
import Derived.Test.YtbochicgnoannaaGreatDoorBestFns
namespace Go.Proofs.YtbochicgnoannaaGreatDoor
open Go Go.RowKit

theorem bytesMB_any (a : Option Addr) (cap n : Nat) (w : World) (hl : n ≤ 140737488351232) :
    Calls Tryz.prog 7 #[.slice a n cap] w fun e w' => SomeBool e ∧ w = w' := by
  go_enter Tryz.func7, Tryz.ntmps7
  go_wp2
  all_goals (go_ret; exact ⟨⟨_, rfl⟩, rfl⟩)

set_option maxRecDepth 100000 in
set_option maxHeartbeats 800000 in
theorem law_FnMaxByOnItselfAgreesWithMax (a : Option Addr) (cap : Nat) (xs : List Int) (w : World) (hl : xs.length ≤ 140737488351232) (ha : a = none → xs = []) (hcap : a = none → cap = 0) (hrow : Row w a (intV xs)) :
    Calls Tryz.prog 3 #[.slice a xs.length cap] w (Holds w) := by
  have HA : Hid (a = none → xs = []) := ha
  have HC : Hid (a = none → cap = 0) := hcap
  clear ha hcap
  go_enter Tryz.func3, Tryz.ntmps3
  go_wp2_with fail
  refine (bytesMB_any a cap xs.length w hl).mono ?_
  rintro e w' ⟨⟨b, rfl⟩, rfl⟩
  cases b with
  | false =>
    go_wp2
    go_ret
    exact ⟨rfl, Below.refl _ _⟩
  | true =>
  by_cases h16 : 131072 < xs.length
  · go_wp2_with fail
    go_ret
    exact ⟨rfl, Below.refl _ _⟩
  have hl2 : xs.length ≤ 131072 := by omega
  clear h16
  go_wp2_with fail
  refine (clone_any a cap xs w (by omega) HA.out HC.out hrow).mono ?_
  rintro e w1 ⟨_, rfl, a1, c1, rfl, r1, hb1⟩
  clear hrow
  go_wp2_with fail
  refine (zzMaxBy_any a1 a1 c1 c1 xs xs w1 (by omega) rfl r1 r1).mono ?_
  rintro e w2 ⟨u, rfl, hu, hb2⟩
  have r2 := r1.below (Nat.le_refl _) hb2
  have hb12 := hb1.trans (hb2.mono hb1.size)
  have HM := zzMax_any a1 c1 xs w2 (by omega) r2
  have HM' : Hid (Calls Tryz.prog 10 _ w2 _) := HM
  clear r1 hb1 hb2 HM r2
  rcases hu with ⟨hx, rfl⟩ | ⟨j, hj, rfl⟩
  · have HX : Hid (xs = []) := hx
    clear hx
    go_wp2_with fail
    refine HM'.out.mono ?_
    rintro e w3 ⟨u2, rfl, hu2, hb3⟩
    have hbz := hb12.trans (hb3.mono hb12.size)
    rcases hu2 with ⟨hx2, rfl⟩ | ⟨j2, hj2, _⟩
    · clear hx2
      go_wp2
      go_ret
      exact ⟨rfl, hbz⟩
    · have := hj2.1
      rw [HX.out] at this
      simp at this
  · have HJ : Hid (Best false xs xs.length j) := hj
    clear hj
    obtain ⟨g, hg⟩ : ∃ g, g = xs.getD j 0 := ⟨_, rfl⟩
    have HG : Hid (g = xs.getD j 0) := hg
    rw [← hg]
    clear hg
    go_wp2_with fail
    refine HM'.out.mono ?_
    rintro e w3 ⟨u2, rfl, hu2, hb3⟩
    have hbz := hb12.trans (hb3.mono hb12.size)
    rcases hu2 with ⟨hx, _⟩ | ⟨j2, hj2, rfl⟩
    · have := HJ.out.1
      rw [hx] at this
      simp at this
    · have e2 : xs.getD j2 0 = g := by rw [HG.out, hj2.uniq HJ.out]
      rw [e2]
      clear e2 hj2 HJ HG
      go_wp2
      go_ret
      exact ⟨rfl, hbz⟩
end Go.Proofs.YtbochicgnoannaaGreatDoor
