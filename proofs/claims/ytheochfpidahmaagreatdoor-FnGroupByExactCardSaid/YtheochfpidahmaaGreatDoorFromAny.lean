/-
  The shim that reads an interface value as a row of ints, at an array of ints.
-/
import Derived.Test.YtheochfpidahmaaGreatDoorToAny
namespace Go.Proofs.YtheochfpidahmaaGreatDoor
open Go Go.RowKit

theorem Tryz.infoInt : (Tryz.prog.info? 3).map (fun i => (i.zero, i.size, i.bytes)) = some (some (.int .i64 0), 1, 8) := by kernel_rfl
/-- The answer is '(row, true)': a row of ints of the call's own. -/
def FromRow (w : World) (xs : List Int) (en : Ending) (w' : World) : Prop :=
  ∃ a cap, en = .returned (.tuple #[.slice a xs.length cap, .bool true]) ∧ Row w' a (intV xs) ∧ Below w.heap.size w w'

set_option maxRecDepth 100000 in
set_option maxHeartbeats 400000 in
theorem fromAny_any (a : Option Addr) (cap : Nat) (xs : List Int) (w : World) (hl : xs.length ≤ 1099511627776) (hrow : Row w a (anyI xs)) :
    Calls Tryz.prog 19 #[.iface 25 (.slice a xs.length cap)] w (FromRow w xs) := by
  obtain ⟨i0, hi, hz0, hz1, hz2⟩ := info_parts Tryz.infoInt
  have h1 := fun (v : Value) (w : World) => a_arr v w
  have h2 := fun (v : Value) (w : World) => i_int v w
  go_enter Tryz.func19, Tryz.ntmps19
  go_wp2_with (at_make; refine wpList_make_full _ rfl _ _ 22 rfl w.heap.size 3 i0 (.int .i64 0) 1 Tryz.underlying22 hi hz0 hz1 _ _ _ _ xs.length rfl rfl rfl rfl ?c1 ?c2 ?c3 ?_)
  case c1 => rw [hz2]; omega
  case c2 => unfold maxLen; omega
  case c3 => omega
  intro w1 hown hgrow
  have hb : Below w.heap.size w w1 := (Below.refl _ _).grown hgrow (Nat.le_refl _) (by intro k hk; cases hk)
  have hown' : w1.ownsRow w.heap.size 3 1 (.slice (some ⟨w.heap.size, 0, none⟩) xs.length xs.length) xs.length (filled (intV xs) (.int .i64 0) 0) := by
    rw [filled_zero, intV_len]
    simpa [Value.cells, toList_madeCells_one] using hown
  clear hown hgrow
  go_wp2
  go_loopw [7] (fun i wr => ∃ k : Nat, k ≤ xs.length ∧ i = .int .i64 k ∧ wr.ownsRow w.heap.size 3 1 (.slice (some ⟨w.heap.size, 0, none⟩) xs.length xs.length) xs.length (filled (intV xs) (.int .i64 0) k) ∧ Below w.heap.size w wr)
    (fun i _ => xs.length - (intOf i).toNat)
  case atStart => exact ⟨0, by omega, rfl, hown', hb⟩
  case round =>
    clear hown' hb
    obtain ⟨k, hk, rfl, hown, hb⟩ := hrel
    by_cases hlt : k < xs.length
    · obtain ⟨b, off, rfl, hbw, hc⟩ := hrow.at (k := k) (by rw [anyI_len]; exact hlt)
      have hck : wr.cell? ⟨b, off + k, none⟩ = some (.iface 3 (.int .i64 xs[k])) := (hb.cell (p := ⟨b, off + k, none⟩) hbw).trans (hc k _ (anyI_get xs hlt))
      have hc2 : wr.cell? ⟨w.heap.size, k, none⟩ = some (.int .i64 0) := by rw [hown.cellAt k (by omega)]; exact filled_at _ _ _ (by rw [intV_len]; exact hlt)
      have hf2 := hown.frozenAt k
      obtain ⟨R1, R2⟩ := fill_step hown hb (intV_get xs hlt)
      clear hc hown hb
      go_wp2
      go_roundw
      case rel => exact ⟨k + 1, by omega, by go_num, R1, R2⟩
      case measure => simp [intOf]; omega
    · go_wp2
      go_ret2
      have hk' : k = xs.length := by omega
      subst hk'
      have e := filled_all (intV xs) (.int .i64 0)
      rw [intV_len] at e
      rw [e] at hown
      exact ⟨some ⟨w.heap.size, 0, none⟩, xs.length, rfl, made_row (intV_len xs).symm hown, hb⟩
end Go.Proofs.YtheochfpidahmaaGreatDoor
