/-
  The frame of a law's row: from the law's walk ('it returns true, and what lay below its own blocks is as it was') to what the row asks behind the call.
-/
import Derived.Test.YtolenhdgnlhkpaaGreatDoorTie
import Derived.Test.YtolenhdgnlhkpaaGreatDoorCards
import Derived.ProofKit
import Derived.OpenShut
import Derived.Lay
import Derived.LaidMore
import Derived.SliceStrings
import Derived.SizedLaws
import Derived.SevenTiedAt
import Derived.ChangeSlices
import Derived.Deep.DeepHandedRow
namespace Go.Proofs.YtolenhdgnlhkpaaGreatDoor
open Go Go.ChangeShapes Go.WideShapes Go.ChangeAt Go.RowKit

theorem Tryz.own : ownKnob Tryz.prog.godebug = none := by kernel_rfl
theorem Tryz.laidOut : laidOutB Tryz.prog = true := by kernel_rfl

section
variable {H : Type} {enc : TypeId × Value → H} {P : Program}

theorem trodAll_below (hl : laidOutB P = true) {W W' : World} (hb : Below W.heap.size W W') : ∀ {ts : List TypeId} {vs : List Value} {ds : List (DataW H)} {ps : List MemPlace},
    (ts.all fun t => P.readableRec t && decide (t < P.types.size)) = true → DataW.TrodAll enc P W 0 (fun _ => true) true ts vs ds ps → (∀ x ∈ ps, x.block < W.heap.size) →
    DataW.TrodAll enc P W' 0 (fun b => decide (b < W.heap.size)) true ts vs ds ps
  | [], _, _, _, _, h, _ => by
    obtain ⟨rfl, rfl, rfl⟩ := trodAll_nil h
    exact rfl
  | t :: ts, _, _, _, hr, h, hlt => by
    obtain ⟨v, vs1, d, ds1, a, b, rfl, rfl, rfl, h1, h2⟩ := trodAll_cons h
    simp only [List.all_cons, Bool.and_eq_true, decide_eq_true_eq] at hr
    exact ⟨a, b, Below.trod hl hr.1.1 hr.1.2 h1 hb (fun x hx => hlt x (List.mem_append_left _ hx)),
      trodAll_below hl hb (by simpa using hr.2) h2 (fun x hx => hlt x (List.mem_append_right _ hx)), rfl⟩

theorem trodVars_len {w : World} {sp : Nat → Bool} : ∀ {ns : List String} {gs : List (DataW H)} {ps : List MemPlace}, DataW.TrodVars enc P w sp ns gs ps → gs.length = ns.length
  | [], [], _, _ => rfl
  | [], _ :: _, _, h => by simp [DataW.TrodVars] at h
  | _ :: _, [], _, h => by simp [DataW.TrodVars] at h
  | _ :: _, _ :: _, _, h => by
    obtain ⟨_, _, _, _, _, _, _, _, _, _, h5, _⟩ := h
    simp only [List.length_cons, trodVars_len h5]

/-- Each named variable's type can be read. -/
def varsFine (P : Program) (ns : List String) : Bool :=
  ns.all fun n => match P.globalNamed n with
    | some g => match (P.globals[g]?).map (·.type) with
      | some t => P.readableRec t && decide (t < P.types.size)
      | none => false
    | none => false

theorem trodVars_below (hl : laidOutB P = true) {W W' : World} (hb : Below W.heap.size W W') : ∀ {ns : List String} {gs : List (DataW H)} {ps : List MemPlace},
    varsFine P ns = true → DataW.TrodVars enc P W (fun _ => true) ns gs ps → (∀ x ∈ ps, x.block < W.heap.size) →
    DataW.TrodVars enc P W' (fun b => decide (b < W.heap.size)) ns gs ps
  | [], [], _, _, h, _ => h
  | [], _ :: _, _, _, h, _ => by simp [DataW.TrodVars] at h
  | _ :: _, [], _, _, h, _ => by simp [DataW.TrodVars] at h
  | n :: ns, d :: gs, ps, hr, h, hlt => by
    obtain ⟨g, t, cs, fuel, p, q, h1, h2, h3, h4, h5, rfl⟩ := h
    have hr' : (P.readableRec t && decide (t < P.types.size)) = true ∧ varsFine P ns = true := by
      unfold varsFine at hr ⊢
      rw [List.all_cons, Bool.and_eq_true] at hr
      refine ⟨?_, hr.2⟩
      have := hr.1
      rw [h1] at this
      simp only [h2] at this
      exact this
    have hrt := hr'.1
    simp only [Bool.and_eq_true, decide_eq_true_eq] at hrt
    have hg : g < W.heap.size := by
      unfold World.var? at h3
      rw [h1] at h3
      simp only [Option.bind_some] at h3
      rcases Nat.lt_or_ge g W.heap.size with h | h
      · exact h
      · rw [Array.getElem?_eq_none h] at h3; cases h3
    have h3' : W'.var? P n = some cs := by
      unfold World.var? at h3 ⊢
      rw [h1] at h3 ⊢
      simp only [Option.bind_some] at h3 ⊢
      rw [hb.block g hg]
      exact h3
    have hT : DataW.Trod enc P W 0 (fun _ => true) true t (.agg cs) d p := ⟨fuel, h4⟩
    obtain ⟨fuel', h4'⟩ := Below.trod hl hrt.1 hrt.2 hT hb (fun x hx => hlt x (by simp [hx]))
    exact ⟨g, t, cs, fuel', p, q, h1, h2, h3', h4', trodVars_below hl hb hr'.2 h5 (fun x hx => hlt x (by simp [hx])), rfl⟩

/-- WHAT A LAW's ROW ASKS BEHIND THE CALL: the answer true; each argument and each named variable as it was. -/
theorem post_law {f : Func} {s : ChangeSpec} {W W' : World} {args : Array Value} {ds gs : List (DataW H)} {before : List MemPlace} {tb : TypeId} (hl : laidOutB P = true)
    (hpar : (f.params.toList.all fun t => P.readableRec t && decide (t < P.types.size)) = true) (hvar : varsFine P s.vars = true) (hbool : P.underlying tb = some .bool) (hres : f.resultTypes = #[tb])
    (hW : DataW.Whole enc P f.params.toList s.vars false W args.toList ds gs before) (hb : Below W.heap.size W W') (hfn : s.fn H (ds ++ gs) = { results := [.lit (.bool true)], args := ds, vars := gs }) :
    s.post enc P f false true false false W args (.bool true) W' := by
  have hW' := hW
  have hlt := hW.lt
  obtain ⟨p, q, hA, hV, rfl, hfz, hnd⟩ := hW
  refine ⟨ds, gs, p ++ q, [], p, q, hW', ?_, ?_, ?_, hb.frame _, fun h => by cases h⟩
  · rw [hfn, hres]
    exact trodAll_mk1 (shut_bool hbool true)
  · rw [hfn]
    exact trodAll_below hl hb hpar hA (fun x hx => hlt x (List.mem_append_left _ hx))
  · rw [hfn]
    exact trodVars_below hl hb hvar hV (fun x hx => hlt x (List.mem_append_right _ hx))
end

/-- THE WITNESS's WORLD: every listed variable laid. -/
theorem witness_laid {H : Type} {enc : TypeId × Value → H} {C : Checked} {os : Os} {f : FuncId} {fn : Func} {s : OpenSpec} {conds : List PathCond} {apart : Bool} {laid : List (String × DataW Unit)} (args : Array Value)
    (hz : ((World.laidAll C.prog os laid).forCall (fun _ _ => 0) ⟨#[], args, []⟩).Shaped C.prog)
    (hok : Input.okWideB C.prog ((World.laidAll C.prog os laid).forCall (fun _ _ => 0) ⟨#[], args, []⟩) f ⟨#[], args, []⟩ = true)
    (hrow : s.preRow enc C.prog fn conds apart laid ((World.laidAll C.prog os laid).forCall (fun _ _ => 0) ⟨#[], args, []⟩).memory args) :
    ∃ (w : World) (tape : Tape) (i : Input), w.os = os ∧ (w.forCall tape i).Shaped C.prog ∧ i.vars = [] ∧ Input.okWide C.prog (w.forCall tape i) .any w.heap.size f i ∧
      s.preRow enc C.prog fn conds apart laid (w.forCall tape i).memory i.args ∧ ({} : Assume).holds C.prog (lone (Frame.enter C.prog f i.args .normal) [] (w.forCall tape i)) :=
  ⟨World.laidAll C.prog os laid, fun _ _ => 0, ⟨#[], args, []⟩, World.laidAll_os _ _ _, hz, (Input.okWide_of_okWideB (base := 0) hok).1, (Input.okWide_of_okWideB hok).2, hrow, by
    simp only [Assume.holds]
    exact ⟨by simp, by simp, fun _ => Modest.zero, by simp, by simp⟩⟩

end Go.Proofs.YtolenhdgnlhkpaaGreatDoor
