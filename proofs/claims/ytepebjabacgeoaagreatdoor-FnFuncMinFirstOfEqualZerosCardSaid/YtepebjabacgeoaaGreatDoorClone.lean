/-
  The law's copy of a row of ints.
-/
import Derived.Test.YtepebjabacgeoaaGreatDoorToAny
namespace Go.Proofs.YtepebjabacgeoaaGreatDoor
open Go Go.RowKit

theorem Tryz.infoIntC : (Tryz.prog.info? 3).map (fun i => (i.zero, i.size, i.bytes)) = some (some (.int .i64 0), 1, 8) := by kernel_rfl
/-- A law's end: true; what was there before is as it was. -/
def Holds (w : World) (e : Ending) (w' : World) : Prop := e = .returned (.bool true) ∧ Below w.heap.size w w'
/-- A slice of ints that reads so. -/
def IsRow (w w' : World) (xs : List Int) (v : Value) : Prop := ∃ a c, v = .slice a xs.length c ∧ Row w' a (intV xs) ∧ Below w.heap.size w w'

theorem filledI_zero (xs : List Int) (z : Value) : filled (intV xs) z 0 = List.replicate xs.length z := by rw [filled_zero, intV_len]

set_option maxRecDepth 100000 in
set_option maxHeartbeats 800000 in
theorem clone_any (a : Option Addr) (cap : Nat) (xs : List Int) (w : World) (hl : xs.length ≤ 1099511627776) (ha : a = none → xs = []) (hcap : a = none → cap = 0) (hrow : Row w a (intV xs)) :
    Calls Tryz.prog 11 #[.slice a xs.length cap] w fun e w' => ∃ v, e = .returned v ∧ IsRow w w' xs v := by
  obtain ⟨i0, hi, hz0, hz1, hz2⟩ := info_parts Tryz.infoIntC
  have hq := fun (w : World) => Lib.run_eql_slice_nil (P := Tryz.prog) w 22 3 a xs.length cap 0 0 Tryz.underlying22
  cases a with
  | none =>
    obtain rfl := ha rfl
    obtain rfl := hcap rfl
    clear ha hcap hq
    have hq := fun (w : World) => Lib.run_eql_slice_nil (P := Tryz.prog) w 22 3 none 0 0 0 0 Tryz.underlying22
    go_enter Tryz.func11, Tryz.ntmps11
    go_wp2
    go_ret
    exact ⟨_, rfl, none, 0, rfl, .inl rfl, Below.refl _ _⟩
  | some ad =>
    clear ha hcap
    go_enter Tryz.func11, Tryz.ntmps11
    go_wp2_with (at_make; refine wpList_make_full _ rfl _ _ 22 rfl w.heap.size 3 i0 (.int .i64 0) 1 Tryz.underlying22 hi hz0 hz1 _ _ _ _ xs.length rfl rfl rfl rfl ?c1 ?c2 ?c3 ?_)
    case c1 => rw [hz2]; omega
    case c2 => unfold maxLen; omega
    case c3 => omega
    intro w1 hown hgrow
    have hb : Below w.heap.size w w1 := (Below.refl _ _).grown hgrow (Nat.le_refl _) (by intro k hk; cases hk)
    have hown' : w1.ownsRow w.heap.size 3 1 (.slice (some ⟨w.heap.size, 0, none⟩) xs.length xs.length) xs.length (filled (intV xs) (.int .i64 0) 0) := by
      rw [filledI_zero]
      simpa [Value.cells, toList_madeCells_one] using hown
    clear hown hgrow hq
    go_wp2
    go_loopw [4] (fun i wr => ∃ k : Nat, k ≤ xs.length ∧ i = .int .i64 k ∧ wr.ownsRow w.heap.size 3 1 (.slice (some ⟨w.heap.size, 0, none⟩) xs.length xs.length) xs.length (filled (intV xs) (.int .i64 0) k) ∧ Below w.heap.size w wr)
      (fun i _ => xs.length - (intOf i).toNat)
    case atStart => exact ⟨0, by omega, rfl, hown', hb⟩
    case round =>
      clear hown' hb
      obtain ⟨k, hk, rfl, hown, hb⟩ := hrel
      by_cases hlt : k < xs.length
      · obtain ⟨b, off, had, hbw, hc⟩ := hrow.at (k := k) (by rw [intV_len]; exact hlt)
        obtain rfl := Option.some.inj had
        have hck : wr.cell? ⟨b, off + k, none⟩ = some (.int .i64 xs[k]) := (hb.cell (p := ⟨b, off + k, none⟩) hbw).trans (hc k _ (intV_get xs hlt))
        have hc2 : wr.cell? ⟨w.heap.size, k, none⟩ = some (.int .i64 0) := by rw [hown.cellAt k (by omega)]; exact filled_at _ _ _ (by rw [intV_len]; exact hlt)
        have hf2 := hown.frozenAt k
        obtain ⟨R1, R2⟩ := fill_step hown hb (intV_get xs hlt)
        clear hc hown hb
        go_wp2
        go_roundw
        case rel => exact ⟨k + 1, by omega, by go_num, R1, R2⟩
        case measure => simp [intOf]; omega
      · go_wp2
        go_ret
        have hk' : k = xs.length := by omega
        subst hk'
        have e := filled_all (intV xs) (.int .i64 0)
        rw [intV_len] at e
        rw [e] at hown
        exact ⟨_, rfl, some ⟨w.heap.size, 0, none⟩, xs.length, rfl, made_row (intV_len xs).symm hown, hb⟩
end Go.Proofs.YtepebjabacgeoaaGreatDoor
