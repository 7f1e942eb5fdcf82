/-
  rindex answers the last of indices: the law's walk (folder n001_82).
-/
import Derived.Test.YtbhjgdapmflkiaaGreatDoorRidxLaws
namespace Go.Proofs.YtbhjgdapmflkiaaGreatDoor
open Go Go.RowKit

set_option maxRecDepth 100000 in
set_option maxHeartbeats 800000 in
theorem law_FnRindexIsLastOfIndices (a : Option Addr) (cap : Nat) (vs : List Int) (b : Option Addr) (cap2 : Nat) (xs : List Int) (w : World) (hl : vs.length ≤ 140737488351232) (ha : a = none → vs = []) (hcap : a = none → cap = 0) (hrow : Row w a (intV vs))
    (hlb : xs.length ≤ 140737488351232) (hab : b = none → xs = []) (hcapb : b = none → cap2 = 0) (hrowb : Row w b (intV xs)) :
    Calls Tryz.prog 6 #[.slice a vs.length cap, .slice b xs.length cap2] w (Holds w) := by
  have HA : Hid (a = none → vs = []) := ha
  have HC : Hid (a = none → cap = 0) := hcap
  have HA2 : Hid (b = none → xs = []) := hab
  have HC2 : Hid (b = none → cap2 = 0) := hcapb
  clear ha hcap hab hcapb
  have hlo := occs_len vs xs
  have CI := fun (a1 a2 : Option Addr) (c1 c2 : Nat) (w : World) (h1 : vs.length ≤ 65536) (h2 : xs.length ≤ 65536) (r1 : Row w a1 (intV vs)) (r2 : Row w a2 (intV xs)) => zzIndicesInts_any a1 a2 c1 c2 vs xs w h1 h2 r1 r2
  have CR := fun (a1 a2 : Option Addr) (c1 c2 : Nat) (w : World) (h1 : vs.length ≤ 65536) (h2 : xs.length ≤ 65536) (r1 : Row w a1 (intV vs)) (r2 : Row w a2 (intV xs)) => zzRindexInts_any a1 a2 c1 c2 vs xs w h1 h2 r1 r2
  have HS : Hid (Asc (occs vs xs)) := occs_step vs xs
  generalize occs vs xs = os at *
  have HL0 : Hid (lastOr os = lastOr os ∧ fnd os = fnd os) := ⟨rfl, rfl⟩
  obtain ⟨lo, hlo2⟩ : ∃ lo, lo = lastOr os := ⟨_, rfl⟩
  obtain ⟨fo, hfo2⟩ : ∃ fo, fo = fnd os := ⟨_, rfl⟩
  have HL : Hid (lo = lastOr os ∧ fo = fnd os) := ⟨hlo2, hfo2⟩
  simp only [← hlo2, ← hfo2] at CR
  clear hlo2 hfo2 HL0
  have HCI : Hid (∀ (a1 a2 : Option Addr) (c1 c2 : Nat) (w : World) (h1 : vs.length ≤ 65536) (h2 : xs.length ≤ 65536) (r1 : Row w a1 (intV vs)) (r2 : Row w a2 (intV xs)), _) := CI
  have HCR : Hid (∀ (a1 a2 : Option Addr) (c1 c2 : Nat) (w : World) (h1 : vs.length ≤ 65536) (h2 : xs.length ≤ 65536) (r1 : Row w a1 (intV vs)) (r2 : Row w a2 (intV xs)), _) := CR
  clear CI CR
  go_enter Tryz.func6, Tryz.ntmps6
  go_wp2_with fail
  refine (bytesR2_any a b cap vs.length cap2 xs.length w hl hlb).mono ?_
  rintro e w' ⟨⟨g, rfl⟩, rfl⟩
  cases g with
  | false =>
    go_wp2
    go_ret
    exact ⟨rfl, Below.refl _ _⟩
  | true =>
  by_cases h16 : 4096 < vs.length
  · go_wp2_with fail
    go_ret
    exact ⟨rfl, Below.refl _ _⟩
  by_cases h17 : 4096 < xs.length
  · go_wp2_with fail
    go_ret
    exact ⟨rfl, Below.refl _ _⟩
  have hl2 : vs.length ≤ 4096 := by omega
  have hlb2 : xs.length ≤ 4096 := by omega
  clear h16 h17
  go_wp2_with fail
  refine (clone_any a cap vs w (by omega) HA.out HC.out hrow).mono ?_
  rintro e w1 ⟨_, rfl, a1, c1, rfl, r1, hb1⟩
  have hrowb1 := hrowb.below (Nat.le_refl _) hb1
  clear hrow hrowb
  go_wp2_with fail
  refine (clone_any b cap2 xs w1 (by omega) HA2.out HC2.out hrowb1).mono ?_
  rintro e w2 ⟨_, rfl, a2, c2, rfl, r2, hb2⟩
  have r1' := r1.below (Nat.le_refl _) hb2
  have hb12 := hb1.trans (hb2.mono hb1.size)
  clear hrowb1 r1 hb1 hb2
  go_wp2_with fail
  refine (HCI.out a1 a2 c1 c2 w2 (by omega) (by omega) r1' r2).mono ?_
  rintro e w3 ⟨a3, c3, rfl, r3, hb3⟩
  have r1'' := r1'.below (Nat.le_refl _) hb3
  have r2'' := r2.below (Nat.le_refl _) hb3
  have hb13 := hb12.trans (hb3.mono hb12.size)
  clear r1' r2 hb12 hb3
  go_wp2_with fail
  refine (HCR.out a1 a2 c1 c2 w3 (by omega) (by omega) r1'' r2'').mono ?_
  rintro e w4 ⟨rfl, hb4⟩
  have r3' := r3.below (Nat.le_refl _) hb4
  have hb14 := hb13.trans (hb4.mono hb13.size)
  clear r3 r1'' r2'' hb13 hb4
  go_wp2_with fail
  go_loopw [9] (fun v wr => ∃ k : Nat, 1 ≤ k ∧ (k = 1 ∨ k ≤ os.length) ∧ v = .int .i64 k ∧ Drawn w4 wr) (fun v _ => os.length - (intOf v).toNat)
  case atStart => exact ⟨1, by omega, .inl rfl, rfl, Drawn.refl w4⟩
  case round =>
    obtain ⟨k, hk1, hk, rfl, hd⟩ := hrel
    by_cases hlt : k < os.length
    · obtain ⟨k, rfl⟩ : ∃ j, k = j + 1 := ⟨k - 1, by omega⟩
      obtain ⟨b1, o1, rfl, _, g1⟩ := r3'.at (k := k + 1) (by rw [intV_len]; exact hlt)
      have hc1 := (hd.cell _).trans (g1 (k + 1) _ (intV_get os hlt))
      have hc2 := (hd.cell _).trans (g1 k _ (intV_get os (by omega)))
      have hs := HS.out k hlt
      have hi1 : ((k + 1 : Nat) : Int) < (os.length : Int) := by omega
      have hi2 : ((k + 1 : Nat) : Int) - 1 = (k : Int) := by omega
      have hi3 : (k : Int) < (os.length : Int) := by omega
      clear g1
      generalize os[k] = x1 at hs hc2
      generalize os[k + 1] = x2 at hs hc1
      have hge : ¬ x2 ≤ x1 := by omega
      clear HS HCI HCR HL
      go_wp2_with fail
      go_quiet (fail)
      go_wp2
      go_roundw
      case rel => exact ⟨k + 2, by omega, .inr (by omega), by go_num, by first | exact hd.more _ | exact hd⟩
      case measure => simp [intOf]; omega
    · have hbz := hb14.trans (hd.below _)
      obtain ⟨he1, he2⟩ := HL.out
      rcases Nat.eq_zero_or_pos os.length with hz | hz
      · have := List.eq_nil_of_length_eq_zero hz
        subst this
        have hf : fo = false := he2
        subst hf
        clear he1 he2
        go_wp2
        go_ret
        exact ⟨rfl, hbz⟩
      · have hne : ((os.length : Int) == 0) = false := beq_eq_false_iff_ne.2 (by omega)
        obtain ⟨b1, o1, rfl, _, g1⟩ := r3'.at (k := os.length - 1) (by rw [intV_len]; omega)
        have hcl := (hd.cell _).trans (g1 (os.length - 1) _ (intV_get os (by omega)))
        have hf : fo = true := by
          rw [he2]
          cases os with
          | nil => simp at hz
          | cons x t => rfl
        have hlo' : os[os.length - 1] = lo := by
          rw [he1]
          unfold lastOr
          rw [List.getLast?_eq_getElem?, List.getElem?_eq_getElem (by omega)]
          rfl
        rw [hlo'] at hcl
        subst hf
        have hi2 : (os.length : Int) - 1 = ((os.length - 1 : Nat) : Int) := by omega
        have hi3 : ((os.length - 1 : Nat) : Int) < (os.length : Int) := by omega
        clear g1 he1 he2 hlo'
        go_wp2
        go_ret
        exact ⟨rfl, hbz⟩
end Go.Proofs.YtbhjgdapmflkiaaGreatDoor
