/-
  A row of bools, as an argument is found at the call.
-/
import Derived.Test.YtepebjabacgeoaaGreatDoorFrD
import Derived.Test.YtepebjabacgeoaaGreatDoorBools
namespace Go.Proofs.YtepebjabacgeoaaGreatDoor
open Go Go.ChangeShapes Go.WideShapes Go.ChangeAt Go.RowKit

def boolAt {H : Type} (y : DataW H × List MemPlace) : Bool := match y.1 with
  | .lit (.bool b) => b
  | _ => false

theorem open_brow {H : Type} {enc : TypeId × Value → H} {P : Program} {W : World} {base : Nat} {t e : TypeId} {v : Value} {d : DataW H} {p : List MemPlace} (ht : P.underlying t = some (.slice e)) (he : P.underlying e = some .bool) (hc : P.cellsOf e = 1)
    (hval : Value.okWide P W .any base t v) (hd : DataW.Trod enc P W 0 (fun _ => true) true t v d p) :
    ∃ (a0 : Option Addr) (cap : Nat) (zs : List Bool), v = .slice a0 zs.length cap ∧ (a0 = none → zs = []) ∧ (a0 = none → cap = 0) ∧ Row W a0 (boolV zs) ∧ ((d = .nil ∧ zs = []) ∨ ∃ l r, d = .slice l r ∧ l.length = zs.length) := by
  obtain ⟨a0, len, cap, rfl⟩ := okWide_slice ht hval
  obtain ⟨fuel, hf⟩ := hd
  rcases DataW.trod_slice ht hf with ⟨hcs, hx⟩ | ⟨a, len', cap', elems, rest, n, _, hcs, hx, _, hl, hm, hlen, hel, _, _⟩
  · simp [Value.cells] at hcs
    obtain ⟨rfl, rfl, rfl⟩ := hcs
    simp only [Prod.mk.injEq] at hx
    exact ⟨none, 0, [], rfl, fun _ => rfl, fun _ => rfl, .inl rfl, .inl ⟨hx.1, rfl⟩⟩
  · simp [Value.cells] at hcs
    obtain ⟨rfl, rfl, rfl⟩ := hcs
    simp only [Prod.mk.injEq] at hx
    have each : ∀ i (hi : i < elems.length), W.cell? (a.add i) = some (.bool (boolAt elems[i])) := by
      intro i hi
      have h1 := hel i (by omega)
      rw [List.getElem?_eq_getElem hi, hc, Nat.mul_one, Option.bind_eq_some_iff] at h1
      obtain ⟨cs', h2, h3⟩ := h1
      obtain ⟨b, rfl, h4⟩ := DataW.trod_bool he h3
      rw [cell_of_cells?_one h2, h4]
      rfl
    refine ⟨some a, cap, elems.map boolAt, by rw [List.length_map, hlen], (fun h => by cases h), (fun h => by cases h), ?_, .inr ⟨_, _, hx.1, by simp⟩⟩
    by_cases hl0 : elems.length = 0
    · exact .inl (by rw [List.eq_nil_of_length_eq_zero hl0]; rfl)
    · obtain ⟨b, off, spot⟩ := a
      have hspot : spot = none := by simpa [Addr.add] using World.cell?_spot (each 0 (by omega))
      subst hspot
      have hc0 := each 0 (by omega)
      refine .inr ⟨b, off, rfl, World.block_lt_of_cell? W _ (by simpa [Addr.add] using hc0), fun j u hu => ?_⟩
      have hj : j < elems.length := by
        have := (List.getElem?_eq_some_iff.1 hu).1
        simpa [boolV] using this
      have h5 := each j hj
      rw [Addr.add_lit] at h5
      rw [h5]
      simp [boolV, hj] at hu
      rw [← hu]

theorem brow_reach {H : Type} {P : Program} {ts : List TypeId} {ds : List (DataW H)} {zs : List Bool} {d : DataW H} {t e : TypeId} {j : Nat} (h : (DataW.weightsEach P ts ds).all (· ≤ reachBytes) = true) (ht : ts[j]? = some t) (hd : ds[j]? = some d) (hu : P.underlying t = some (.slice e)) (h1 : P.bytesOf e = 1)
    (hz : (d = .nil ∧ zs = []) ∨ ∃ l r, d = .slice l r ∧ l.length = zs.length) : zs.length ≤ 140737488351232 := by
  rcases hz with ⟨_, rfl⟩ | ⟨l, r, rfl, hl⟩
  · simp
  · have := sized_slice h ht hd hu
    rw [h1] at this
    simp only [reachBytes] at this
    omega
end Go.Proofs.YtepebjabacgeoaaGreatDoor
