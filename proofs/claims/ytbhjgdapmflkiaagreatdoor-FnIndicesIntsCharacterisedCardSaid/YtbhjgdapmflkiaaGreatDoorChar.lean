/-
  indices over rows of ints, characterised: the law's walk (folder n001_82).
-/
import Derived.Test.YtbhjgdapmflkiaaGreatDoorRidxLaws
namespace Go.Proofs.YtbhjgdapmflkiaaGreatDoor
open Go Go.RowKit

/-- Each member is a position at which the needle occurs. -/
def AllAt (vs xs os : List Int) : Prop := ∀ (j : Nat) (h : j < os.length), ∃ k : Nat, os[j] = (k : Int) ∧ k + xs.length ≤ vs.length ∧ matchAt vs xs k = true

set_option maxRecDepth 100000 in
set_option maxHeartbeats 800000 in
theorem law_FnIndicesIntsCharacterised (a : Option Addr) (cap : Nat) (vs : List Int) (b : Option Addr) (cap2 : Nat) (xs : List Int) (w : World) (hl : vs.length ≤ 140737488351232) (ha : a = none → vs = []) (hcap : a = none → cap = 0) (hrow : Row w a (intV vs))
    (hlb : xs.length ≤ 140737488351232) (hab : b = none → xs = []) (hcapb : b = none → cap2 = 0) (hrowb : Row w b (intV xs)) :
    Calls Tryz.prog 5 #[.slice a vs.length cap, .slice b xs.length cap2] w (Holds w) := by
  have HA : Hid (a = none → vs = []) := ha
  have HC : Hid (a = none → cap = 0) := hcap
  have HA2 : Hid (b = none → xs = []) := hab
  have HC2 : Hid (b = none → cap2 = 0) := hcapb
  clear ha hcap hab hcapb
  have hlo := occs_len vs xs
  have CI := fun (a1 a2 : Option Addr) (c1 c2 : Nat) (w : World) (h1 : vs.length ≤ 65536) (h2 : xs.length ≤ 65536) (r1 : Row w a1 (intV vs)) (r2 : Row w a2 (intV xs)) => zzIndicesInts_any a1 a2 c1 c2 vs xs w h1 h2 r1 r2
  have HS : Hid (Asc (occs vs xs)) := occs_step vs xs
  have HM : Hid (AllAt vs xs (occs vs xs)) := occs_mem vs xs
  have HN : Hid ((xs.length = 0 → occs vs xs = []) ∧ (xs.length ≠ 0 → (occK vs xs (vs.length + 1 - xs.length)).length = (occs vs xs).length)) := by
    show _ ∧ _
    unfold occs
    exact ⟨fun h => by rw [if_pos h], fun h => by rw [if_neg h]⟩
  generalize occs vs xs = os at *
  have HCI : Hid (∀ (a1 a2 : Option Addr) (c1 c2 : Nat) (w : World) (h1 : vs.length ≤ 65536) (h2 : xs.length ≤ 65536) (r1 : Row w a1 (intV vs)) (r2 : Row w a2 (intV xs)), _) := CI
  clear CI
  go_enter Tryz.func5, Tryz.ntmps5
  go_wp2_with fail
  refine (bytesR3_any a b cap vs.length cap2 xs.length w hl hlb).mono ?_
  rintro e w' ⟨⟨g, rfl⟩, rfl⟩
  cases g with
  | false =>
    go_wp2
    go_ret
    exact ⟨rfl, Below.refl _ _⟩
  | true =>
  by_cases h16 : 4096 < vs.length
  · go_wp2_with fail
    go_ret
    exact ⟨rfl, Below.refl _ _⟩
  by_cases h17 : 4096 < xs.length
  · go_wp2_with fail
    go_ret
    exact ⟨rfl, Below.refl _ _⟩
  have hl2 : vs.length ≤ 4096 := by omega
  have hlb2 : xs.length ≤ 4096 := by omega
  clear h16 h17
  go_wp2_with fail
  refine (clone_any a cap vs w (by omega) HA.out HC.out hrow).mono ?_
  rintro e w1 ⟨_, rfl, a1, c1, rfl, r1, hb1⟩
  have hrowb1 := hrowb.below (Nat.le_refl _) hb1
  clear hrow hrowb
  go_wp2_with fail
  refine (clone_any b cap2 xs w1 (by omega) HA2.out HC2.out hrowb1).mono ?_
  rintro e w2 ⟨_, rfl, a2, c2, rfl, r2, hb2⟩
  have r1' := r1.below (Nat.le_refl _) hb2
  have hb12 := hb1.trans (hb2.mono hb1.size)
  clear hrowb1 r1 hb1 hb2
  go_wp2_with fail
  refine (HCI.out a1 a2 c1 c2 w2 (by omega) (by omega) r1' r2).mono ?_
  rintro e w3 ⟨a3, c3, rfl, r3, hb3⟩
  have r1'' := r1'.below (Nat.le_refl _) hb3
  have r2'' := r2.below (Nat.le_refl _) hb3
  have hb13 := hb12.trans (hb3.mono hb12.size)
  clear r1' r2 hb12 hb3 HCI
  by_cases h0 : xs.length = 0
  · have := HN.out.1 h0
    subst this
    have hx : xs = [] := List.eq_nil_of_length_eq_zero h0
    subst hx
    clear h0 r1'' r2'' r3 HN HM HS
    go_wp2
    go_ret
    exact ⟨rfl, hb13⟩
  have hpos : 0 < xs.length := by omega
  have hne : ((xs.length : Int) == 0) = false := beq_eq_false_iff_ne.2 (by omega)
  have HN' : Hid ((occK vs xs (vs.length + 1 - xs.length)).length = os.length) := HN.out.2 h0
  clear HN h0
  go_wp2_with fail
  go_loopw [7] (fun v wr => ∃ k : Nat, k ≤ os.length ∧ v = .int .i64 k ∧ Drawn w3 wr) (fun v _ => os.length - (intOf v).toNat)
  case atStart => exact ⟨0, by omega, rfl, Drawn.refl w3⟩
  case round =>
    obtain ⟨k, hk, rfl, hd⟩ := hrel
    by_cases hlt : k < os.length
    · obtain ⟨b1, o1, rfl, _, g1⟩ := r3.at (k := k) (by rw [intV_len]; exact hlt)
      have hc1 := (hd.cell _).trans (g1 k _ (intV_get os hlt))
      obtain ⟨n, hn1, hn2, hn3⟩ := HM.out k hlt
      have hMA := zzMatchAt_any a1 a2 c1 c2 vs xs n wr (by omega) hn2 (r1''.drawn hd) (r2''.drawn hd)
      rw [hn3] at hMA
      have HMA : Hid (Calls Tryz.prog 10 _ wr _) := hMA
      clear hMA hn3
      rw [hn1] at hc1
      have hg1 : ¬ (n : Int) < 0 := by omega
      have hg2 : ¬ (vs.length : Int) - (xs.length : Int) < (n : Int) := by omega
      have hki : (k : Int) < (os.length : Int) := by omega
      rcases Nat.eq_zero_or_pos k with hk0 | hk0
      · subst hk0
        rw [Nat.add_zero] at hc1
        clear g1 hn1
        go_wp2_with fail
        refine HMA.out.mono ?_
        rintro e w4 ⟨rfl, hd4⟩
        go_wp2_with fail
        go_roundw
        case rel => exact ⟨1, by omega, by go_num, hd.trans hd4⟩
        case measure => simp [intOf]; omega
      · obtain ⟨j, rfl⟩ : ∃ j, k = j + 1 := ⟨k - 1, by omega⟩
        have hs : os[j] < os[j + 1] := HS.out j hlt
        have hc2 := g1 j _ (intV_get os (by omega))
        rw [hn1] at hs
        generalize os[j] = x1 at hs hc2
        have hge : ¬ (n : Int) ≤ x1 := by omega
        have hi2 : ((j + 1 : Nat) : Int) - 1 = (j : Int) := by omega
        have hi3 : (j : Int) < (os.length : Int) := by omega
        have hi4 : (0 : Int) < ((j + 1 : Nat) : Int) := by omega
        clear g1 hn1
        go_wp2_with fail
        refine HMA.out.mono ?_
        rintro e w4 ⟨rfl, hd4⟩
        have hc3 := ((hd.trans hd4).cell _).trans hc2
        go_wp2_with fail
        go_roundw
        case rel => exact ⟨j + 2, by omega, by go_num, hd.trans hd4⟩
        case measure => simp [intOf]; omega
    · have r1z := r1''.drawn hd
      have r2z := r2''.drawn hd
      have hbz := hb13.trans (hd.below _)
      have hbe : ¬ (k : Int) < (os.length : Int) := by omega
      clear r1'' r2'' r3 hb13 HM HS
      go_wp2_with fail
      go_loopw [9, 10] (fun c v wx => ∃ i m : Nat, (i = 0 ∨ i + xs.length ≤ vs.length + 1) ∧ m ≤ i ∧ v = .int .i64 i ∧ c = .int .i64 m ∧ Hid (m = (occK vs xs i).length) ∧ Drawn wr wx)
        (fun _ v _ => vs.length + 1 - (intOf v).toNat)
      case atStart => exact ⟨0, 0, .inl rfl, by omega, rfl, rfl, rfl, Drawn.refl wr⟩
      case round =>
        obtain ⟨i, m, hi, hmi, rfl, rfl, HF, hdx⟩ := hrel
        by_cases hlt2 : i + xs.length ≤ vs.length
        · have hlt' : (i : Int) + (xs.length : Int) ≤ (vs.length : Int) := by omega
          have hMA := zzMatchAt_any a1 a2 c1 c2 vs xs i wr (by omega) hlt2 (r1z.drawn hdx) (r2z.drawn hdx)
          by_cases hm : matchAt vs xs i = true
          · rw [hm] at hMA
            have HO : Hid (m + 1 = (occK vs xs (i + 1)).length) := by show _ = _; rw [occK_hit vs xs i hm, List.length_append, ← HF.out]; rfl
            have HMA : Hid (Calls Tryz.prog 10 _ _ _) := hMA
            clear hMA hm HF
            go_wp2_with fail
            refine HMA.out.mono ?_
            rintro e w4 ⟨rfl, hd4⟩
            go_wp2_with fail
            go_roundw
            case rel => exact ⟨i + 1, m + 1, .inr (by omega), by omega, by go_num, by go_num, HO, hdx.trans hd4⟩
            case measure => simp [intOf]; omega
          · have hm' : matchAt vs xs i = false := by simpa using hm
            rw [hm'] at hMA
            have HO : Hid (m = (occK vs xs (i + 1)).length) := by show _ = _; rw [occK_miss vs xs i hm']; exact HF.out
            have HMA : Hid (Calls Tryz.prog 10 _ _ _) := hMA
            clear hMA hm hm' HF
            go_wp2_with fail
            refine HMA.out.mono ?_
            rintro e w4 ⟨rfl, hd4⟩
            go_wp2_with fail
            go_roundw
            case rel => exact ⟨i + 1, m, .inr (by omega), by omega, by go_num, rfl, HO, hdx.trans hd4⟩
            case measure => simp [intOf]; omega
        · have hlt' : ¬ (i : Int) + (xs.length : Int) ≤ (vs.length : Int) := by omega
          have hi' : i = vs.length + 1 - xs.length := by omega
          have hmo : m = os.length := by rw [HF.out, hi', HN'.out]
          subst hmo
          go_wp2
          go_ret
          exact ⟨rfl, hbz.trans (hdx.below _)⟩
end Go.Proofs.YtbhjgdapmflkiaaGreatDoor
