/-
  FnTSVStringsExact: for every row of strings that its guards let in (and trivially for all others) the law returns true; the row and the package's named variables read afterwards as before. The card ties the listed variables to the program's text; fmt's texts are told (the walk never comes to fmt).
-/
import Derived.Test.YtnmmdhgdcdhpnaaGreatFmtEx
import Derived.Test.YtnmmdhgdcdhpnaaGreatFmtFr
namespace Go.Proofs.YtnmmdhgdcdhpnaaGreatFmt
open Go Go.ChangeShapes Go.WideShapes Go.ChangeAt Go.RowKit

namespace FnTSVStringsExact
theorem sizes16 : Tryz.prog.bytesOf 9 = 16 := by kernel_rfl
theorem cells1 : Tryz.prog.cellsOf 9 = 1 := by kernel_rfl

set_option maxRecDepth 100000 in
theorem contract (H : Type) (enc : TypeId × Value → H) (W : World) (base : Nat) (args : Array Value) (ds gs : List (DataW H)) (before : List MemPlace) (F : Stop.Interp)
    (hval0 : ∀ (j : Nat) t v, Tryz.f4.params[j]? = some t → args[j]? = some v → Value.okWide Tryz.prog W .any base t v)
    (hW : DataW.Whole enc Tryz.prog Tryz.f4.params.toList (OpenSpec.ofChange Rows.fnTSVStringsExactSpec).vars false W args.toList ds gs before)
    (hsz0 : (DataW.weightsEach Tryz.prog (Tryz.f4.params.toList ++ (OpenSpec.ofChange Rows.fnTSVStringsExactSpec).bare.plain.varTypes Tryz.prog) (ds ++ gs)).all (· ≤ reachBytes) = true) :
    Calls Tryz.prog 4 args W fun e W' => ∃ v, e = .returned v ∧ ((OpenSpec.ofChange Rows.fnTSVStringsExactSpec).at F).post enc Tryz.prog Tryz.f4 false true false false W args v W' := by
  have hW' := hW
  have hval := hval0
  have hsz := hsz0
  obtain ⟨p, q, hA0, hV, rfl, hfz, hnd⟩ := hW
  have hA : DataW.TrodAll enc Tryz.prog W 0 (fun _ => true) true Tryz.f4.params.toList args.toList ds p := hA0
  rw [Tryz.params4] at hA hval hsz
  obtain ⟨v0, d0, rfl, rfl, h0⟩ := trodAll_one hA
  obtain ⟨a0, len, cap, rfl⟩ := okWide_slice Tryz.underlying22 (hval 0 22 v0 rfl rfl)
  obtain ⟨gs1, gs2, gs3, gs4, gs5, rfl⟩ : ∃ g1 g2 g3 g4 g5, gs = [g1, g2, g3, g4, g5] := by
    have h5 : gs.length = 5 := trodVars_len hV
    match gs, h5 with
    | [g1, g2, g3, g4, g5], _ => exact ⟨g1, g2, g3, g4, g5, rfl⟩
  have done : ∀ {e : Ending} {W' : World}, Holds W e W' → ∃ v, e = .returned v ∧ ((OpenSpec.ofChange Rows.fnTSVStringsExactSpec).at F).post enc Tryz.prog Tryz.f4 false true false false W #[.slice a0 len cap] v W' := fun ⟨he, hb⟩ =>
    ⟨_, he, post_law (tb := 4) Tryz.laidOut (by kernel_rfl) (by kernel_rfl) Tryz.underlying4 rfl hW' hb rfl⟩
  have run : ∀ ss : List ByteArray, ss.length = len → len ≤ 140737488351232 → (a0 = none → ss = []) → (a0 = none → cap = 0) → Row W a0 (strV ss) →
      Calls Tryz.prog 4 #[.slice a0 len cap] W fun e W' => ∃ v, e = .returned v ∧ ((OpenSpec.ofChange Rows.fnTSVStringsExactSpec).at F).post enc Tryz.prog Tryz.f4 false true false false W #[.slice a0 len cap] v W' := by
    intro ss hl h1 h2 h3 h4
    subst hl
    exact (law_FnTSVStringsExact a0 cap ss W h1 h2 h3 h4).mono fun e W' h => done h
  obtain ⟨fuel, hf⟩ := h0
  rcases open_strings Tryz.underlying22 Tryz.underlying9 cells1 hf with ⟨hcs, hx⟩ | ⟨a, len', cap', ss, hcs, _, hl, hm, hz, hx, hcell, hws⟩
  · simp [Value.cells] at hcs
    obtain ⟨rfl, rfl, rfl⟩ := hcs
    exact run [] rfl (by omega) (fun _ => rfl) (fun _ => rfl) (.inl rfl)
  · simp [Value.cells] at hcs
    obtain ⟨rfl, rfl, rfl⟩ := hcs
    simp only [Prod.mk.injEq] at hx
    obtain ⟨rfl, rfl⟩ := hx
    simp only [if_true] at hz
    have hreach : len ≤ 140737488351232 := by
      have := sized_slice hsz (j := 0) (t := 22) (e := 9) rfl rfl Tryz.underlying22
      rw [sizes16] at this
      simp only [strs, List.length_map, List.length_take, List.length_drop, reachBytes] at this
      omega
    refine run (ss.take len) (by rw [List.length_take]; omega) hreach (fun h => by cases h) (fun h => by cases h) ?_
    by_cases hl0 : len = 0
    · subst hl0
      exact .inl (by simp [strV])
    · obtain ⟨b, off, spot⟩ := a
      have hspot : spot = none := by simpa [Addr.add] using World.cell?_spot (hcell 0 (by omega))
      subst hspot
      have hc0 := hcell 0 (by omega)
      refine .inr ⟨b, off, rfl, World.block_lt_of_cell? W _ (by simpa [Addr.add] using hc0), fun j u hu => ?_⟩
      have hj : j < len := by
        have := (List.getElem?_eq_some_iff.1 hu).1
        simp only [strV, List.length_map, List.length_take] at this
        omega
      have e := hcell j (by omega)
      rw [Addr.add_lit] at e
      rw [e]
      have hjs : j < ss.length := by omega
      simp [strV, hj, hjs] at hu
      rw [← hu]
      simp [List.getD, hjs]

set_option maxRecDepth 100000 in
theorem lifted (os : Os) (started : os.Started) (H : Type) (enc : TypeId × Value → H) :
    ReturnsInTold none {} Tryz.checked os 4 .any Input.okWide ((OpenSpec.ofChange Rows.fnTSVStringsExactSpec).preRow enc Tryz.prog Tryz.f4 Rows.fnTSVStringsExactRow.domain false Rows.fnTSVStringsExactRow.laid)
      (fun F => ((OpenSpec.ofChange Rows.fnTSVStringsExactSpec).at F).post enc Tryz.prog Tryz.f4 false true false false) (aloneAtReturn Tryz.prog) nothingAlways := by
  refine returnsInTold_of_row (C := Tryz.checked) (s := OpenSpec.ofChange Rows.fnTSVStringsExactSpec) (by kernel_rfl) Tryz.own started (by kernel_rfl) Tryz.func4
    (fun F => witness_laid (enc := enc) (C := Tryz.checked) (os := os) #[.slice none 0 0] (World.shaped_of_ZipB (by kernel_rfl) (by kernel_rfl)) (by kernel_rfl)
      (OpenSpec.preRow_of_cond 8 (x := ([.nil], [.lit (.int .i64 8), .lit (.int .i64 40), .lit (.int .i64 40), .lit (.int .i64 12), .lit (.int .i64 80)], [.cell 2 0, .cell 11 0, .cell 14 0, .cell 9 0, .cell 10 0])) (by kernel_rfl) (by kernel_rfl) (fun k hk => by cases hk) (by kernel_rfl)
        (by rw [MakeChecks.laidMetH_plain _ _ _ (by kernel_rfl)]; exact laidMet_laidAll _ (by kernel_rfl) (by kernel_rfl))) F) ?_
  intro F W base args ds gs before _ hF hval0 hW _ _ hsz _ _
  exact contract H enc W base args ds gs before F.told hval0 hW hsz

theorem holds : Rows.FnTSVStringsExactToldSaid :=
  Claim7.holds_of_told_tied_any_at .later 4 Tryz.f4 "fmt.Sprintf, its operands' methods called" [] [] _ _ _ _ _ (by kernel_rfl) rfl rfl rfl Tryz.laidOut (by kernel_rfl) rfl ⟨rfl, rfl, rfl, rfl, rfl, rfl, rfl⟩ rfl rfl (by kernel_rfl) (by kernel_rfl) Tryz.func4 (by kernel_rfl)
    (of_decide_eq_true (by kernel_rfl)) (of_decide_eq_true (by kernel_rfl)) (by kernel_rfl) rfl (by kernel_rfl) (by kernel_rfl)
    (by kernel_rfl) (by kernel_rfl) (by kernel_rfl) (by kernel_rfl) (by kernel_rfl) (by kernel_rfl) (by kernel_rfl) (by kernel_rfl) (by kernel_rfl) rfl (by kernel_rfl) rfl rfl
    rfl rfl
    rfl (by kernel_rfl) (by kernel_rfl) (by kernel_rfl) (by decide) (by kernel_rfl) fnTSVStringsExact_row_tie
    (OpenClaim.moreEntering_of (by kernel_rfl) (by kernel_rfl) (by kernel_rfl) (by kernel_rfl) (by kernel_rfl) (by kernel_rfl) (by kernel_rfl) (by kernel_rfl) (by kernel_rfl) (by kernel_rfl))
    ⟨_, WideRow.started_initial, Tryz.quiet _⟩
    (fun os started _ H enc _ => lifted os started H enc)
end FnTSVStringsExact
#print axioms FnTSVStringsExact.holds
end Go.Proofs.YtnmmdhgdcdhpnaaGreatFmt
