/-
  FnMixedDispatchIsSymmetric: for every input that its guards let in (and trivially for all others) the law returns true; the arguments and the package's named variables read afterwards as before. The card ties the listed variables to the program's text.
-/
import Derived.Test.YtolenhdgnlhkpaaGreatDoorMix
import Derived.Test.YtolenhdgnlhkpaaGreatDoorFrD
namespace Go.Proofs.YtolenhdgnlhkpaaGreatDoor
open Go Go.ChangeShapes Go.WideShapes Go.ChangeAt Go.RowKit

namespace FnMixedDispatchIsSymmetric

set_option maxRecDepth 100000 in
theorem contract (H : Type) (enc : TypeId × Value → H) (W : World) (base : Nat) (args : Array Value) (ds gs : List (DataW H)) (before : List MemPlace) (F : Stop.Interp)
    (hval0 : ∀ (j : Nat) t v, Tryz.f3.params[j]? = some t → args[j]? = some v → Value.okWide Tryz.prog W .any base t v)
    (hW : DataW.Whole enc Tryz.prog Tryz.f3.params.toList (OpenSpec.ofChange Rows.fnMixedDispatchIsSymmetricSpec).vars false W args.toList ds gs before)
    (hsz0 : (DataW.weightsEach Tryz.prog (Tryz.f3.params.toList ++ (OpenSpec.ofChange Rows.fnMixedDispatchIsSymmetricSpec).bare.plain.varTypes Tryz.prog) (ds ++ gs)).all (· ≤ reachBytes) = true) :
    Calls Tryz.prog 3 args W fun e W' => ∃ v, e = .returned v ∧ ((OpenSpec.ofChange Rows.fnMixedDispatchIsSymmetricSpec).at F).post enc Tryz.prog Tryz.f3 false true false false W args v W' := by
  have hW' := hW
  have hval := hval0
  have hsz := hsz0
  obtain ⟨p, q, hA0, hV, rfl, hfz, hnd⟩ := hW
  have hA : DataW.TrodAll enc Tryz.prog W 0 (fun _ => true) true Tryz.f3.params.toList args.toList ds p := hA0
  rw [Tryz.params3] at hA hval hsz
  obtain ⟨v0, vs0, d0, ds0, p0, q0, hargs, rfl, rfl, h0, r0⟩ := trodAll_cons hA
  obtain ⟨v1, vs1, d1, ds1, p1, q1, rfl, rfl, rfl, h1, r1⟩ := trodAll_cons r0
  obtain ⟨rfl, rfl, rfl⟩ := trodAll_nil r1
  obtain rfl : args = #[v0, v1] := by cases args; simp_all
  obtain ⟨g1, g2, g3, g4, g5, g6, g7, rfl⟩ : ∃ g1 g2 g3 g4 g5 g6 g7, gs = [g1, g2, g3, g4, g5, g6, g7] := by
    have h5 : gs.length = 7 := trodVars_len hV
    match gs, h5 with
    | [g1, g2, g3, g4, g5, g6, g7], _ => exact ⟨g1, g2, g3, g4, g5, g6, g7, rfl⟩
  have done : ∀ {e : Ending} {W' : World}, Holds W e W' → ∃ v, e = .returned v ∧ ((OpenSpec.ofChange Rows.fnMixedDispatchIsSymmetricSpec).at F).post enc Tryz.prog Tryz.f3 false true false false W #[v0, v1] v W' := fun ⟨he, hb⟩ =>
    ⟨_, he, post_law (tb := 4) Tryz.laidOut (by kernel_rfl) (by kernel_rfl) Tryz.underlying4 rfl hW' hb rfl⟩
  obtain ⟨x0, rfl, rfl, rfl, hx0⟩ := open_int Tryz.underlying3 (hval 0 3 v0 rfl rfl) h0
  obtain ⟨x1, rfl, rfl, rfl, hx1⟩ := open_float Tryz.underlying22 (hval 1 22 v1 rfl rfl) h1
  exact (law_FnMixedDispatchIsSymmetric x0 x1 W ).mono fun e W' h => done h

set_option maxRecDepth 100000 in
theorem lifted (os : Os) (started : os.Started) (H : Type) (enc : TypeId × Value → H) (F : Stop.Interp) :
    ReturnsInHanded {} Tryz.checked os 3 .any ((OpenSpec.ofChange Rows.fnMixedDispatchIsSymmetricSpec).preRow enc Tryz.prog Tryz.f3 Rows.fnMixedDispatchIsSymmetricRow.domain false Rows.fnMixedDispatchIsSymmetricRow.laid)
      (((OpenSpec.ofChange Rows.fnMixedDispatchIsSymmetricSpec).at F).post enc Tryz.prog Tryz.f3 false true false false) := by
  refine returnsInHanded_of_row (C := Tryz.checked) (s := OpenSpec.ofChange Rows.fnMixedDispatchIsSymmetricSpec) Tryz.own started (by kernel_rfl) Tryz.func3
    (witness_laid (enc := enc) (C := Tryz.checked) (os := os) #[.int .i64 0, .float .f64 0] (World.shaped_of_ZipB (by kernel_rfl) (by kernel_rfl)) (by kernel_rfl)
      (OpenSpec.preRow_of_cond 8 (Option.some_get (by kernel_rfl)).symm (by kernel_rfl) (fun k hk => by cases hk) (by kernel_rfl)
        (by rw [MakeChecks.laidMetH_plain _ _ _ (by kernel_rfl)]; exact laidMet_laidAll _ (by kernel_rfl) (by kernel_rfl)))) ?_
  intro W base args ds gs before hval0 hW _ _ hsz _ _ _
  exact contract H enc W base args ds gs before F hval0 hW hsz

theorem said : Rows.FnMixedDispatchIsSymmetricSaid :=
  OpenClaim.holds_of_cond 3 Tryz.f3 rfl rfl rfl rfl rfl rfl rfl ⟨rfl, rfl, rfl, rfl, rfl⟩ rfl rfl rfl rfl rfl (by kernel_rfl) Tryz.func3 (by kernel_rfl)
    (of_decide_eq_true (by kernel_rfl)) (by unfold Func.isWrapper; first | (rw [if_pos (by decide +kernel)]; kernel_rfl) | (rw [if_neg (by decide +kernel)]; exact ⟨rfl, rfl⟩))
    (fun os started H enc _ F => by rw [OpenClaim.pre_eq_preRow]; exact lifted os started H enc F)

theorem plain (f : FuncId) (fn : Func) (hf : Tryz.pinned.checked.prog.funcNamed Rows.fnMixedDispatchIsSymmetricRow.func = some f) (hfn : Tryz.pinned.checked.prog.funcs[f]? = some fn) :
    true = Tryz.pinned.checked.prog.looks [] ∧ ∀ (j : Nat) t, fn.params[j]? = some t → Tryz.pinned.checked.prog.wantsStandIn t = false := by
  obtain rfl : f = 3 := Option.some.inj ((show Tryz.prog.funcNamed Rows.fnMixedDispatchIsSymmetricRow.func = some 3 by kernel_rfl).symm.trans hf) |>.symm
  obtain rfl : fn = Tryz.f3 := (Option.some.inj (Tryz.func3.symm.trans hfn)).symm
  refine ⟨by kernel_rfl, fun j t ht => ?_⟩
  have h : ∀ t ∈ Tryz.f3.params, Tryz.prog.wantsStandIn t = false := by
    rw [Tryz.params3]
    intro t ht
    simp only [List.mem_toArray, List.mem_cons, List.not_mem_nil, or_false] at ht
    rcases ht with rfl | rfl <;> kernel_rfl
  exact h t (Array.mem_of_getElem? ht)

theorem holds : Rows.FnMixedDispatchIsSymmetricCardSaid :=
  Claim7.holds_tied_plain_at .later [] _ _ _ _ said (fun _ h => by cases h) (by kernel_rfl) (fun _ h => by cases h) fnMixedDispatchIsSymmetric_row_tie rfl ⟨rfl, rfl⟩ (by kernel_rfl) rfl plain (by kernel_rfl)
end FnMixedDispatchIsSymmetric
#print axioms FnMixedDispatchIsSymmetric.holds
end Go.Proofs.YtolenhdgnlhkpaaGreatDoor
