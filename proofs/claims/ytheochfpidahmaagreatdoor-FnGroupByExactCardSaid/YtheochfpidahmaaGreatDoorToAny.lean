/-
  The shim that turns a row of ints into a row of interface values.
-/
import Derived.Test.YtheochfpidahmaaGreatDoorCmp
namespace Go.Proofs.YtheochfpidahmaaGreatDoor
open Go Go.RowKit

theorem Tryz.infoAny : (Tryz.prog.info? 20).map (fun i => (i.zero, i.size, i.bytes)) = some (some .nilIface, 1, 16) := by kernel_rfl
/-- Ints as values. -/
def intV (xs : List Int) : List Value := xs.map fun x => .int .i64 x
theorem intV_get (xs : List Int) {k : Nat} (h : k < xs.length) : (intV xs)[k]? = some (.int .i64 xs[k]) := by simp [intV, h]
theorem intV_len (xs : List Int) : (intV xs).length = xs.length := by simp [intV]

set_option maxRecDepth 100000 in
set_option maxHeartbeats 400000 in
theorem toAny_any (a : Option Addr) (cap : Nat) (xs : List Int) (w : World) (hl : xs.length ≤ 1099511627776) (hrow : Row w a (intV xs)) :
    Calls Tryz.prog 12 #[.slice a xs.length cap] w (MadeRow w 20 (anyI xs)) := by
  obtain ⟨i0, hi, hz0, hz1, hz2⟩ := info_parts Tryz.infoAny
  have mk := fun (x : Value) (w : World) => run_makeInterface (P := Tryz.prog) w 3 x (by kernel_rfl)
  go_enter Tryz.func12, Tryz.ntmps12
  go_wp2_with (at_make; refine wpList_make_full _ rfl _ _ 25 rfl w.heap.size 20 i0 .nilIface 1 Tryz.underlying25 hi hz0 hz1 _ _ _ _ xs.length rfl rfl rfl rfl ?c1 ?c2 ?c3 ?_)
  case c1 => rw [hz2]; omega
  case c2 => unfold maxLen; omega
  case c3 => omega
  intro w1 hown hgrow
  have hb : Below w.heap.size w w1 := (Below.refl _ _).grown hgrow (Nat.le_refl _) (by intro k hk; cases hk)
  have hown' : w1.ownsRow w.heap.size 20 1 (.slice (some ⟨w.heap.size, 0, none⟩) xs.length xs.length) xs.length (filled (anyI xs) .nilIface 0) := by
    rw [filled_zero, anyI_len]
    simpa [Value.cells, toList_madeCells_one] using hown
  clear hown hgrow
  go_wp2
  go_loopw [4] (fun i wr => ∃ k : Nat, k ≤ xs.length ∧ i = .int .i64 k ∧ wr.ownsRow w.heap.size 20 1 (.slice (some ⟨w.heap.size, 0, none⟩) xs.length xs.length) xs.length (filled (anyI xs) .nilIface k) ∧ Below w.heap.size w wr)
    (fun i _ => xs.length - (intOf i).toNat)
  case atStart => exact ⟨0, by omega, rfl, hown', hb⟩
  case round =>
    clear hown' hb
    obtain ⟨k, hk, rfl, hown, hb⟩ := hrel
    by_cases hlt : k < xs.length
    · obtain ⟨b, off, rfl, hbw, hc⟩ := hrow.at (k := k) (by rw [intV_len]; exact hlt)
      have hck : wr.cell? ⟨b, off + k, none⟩ = some (.int .i64 xs[k]) := (hb.cell (p := ⟨b, off + k, none⟩) hbw).trans (hc k _ (intV_get xs hlt))
      have hc2 : wr.cell? ⟨w.heap.size, k, none⟩ = some .nilIface := by rw [hown.cellAt k (by omega)]; exact filled_at _ _ _ (by rw [anyI_len]; exact hlt)
      have hf2 := hown.frozenAt k
      obtain ⟨R1, R2⟩ := fill_step hown hb (anyI_get xs hlt)
      clear hc hown hb
      go_wp2
      go_roundw
      case rel => exact ⟨k + 1, by omega, by go_num, R1, R2⟩
      case measure => simp [intOf]; omega
    · go_wp2
      go_ret
      have hk' : k = xs.length := by omega
      subst hk'
      have e := filled_all (anyI xs) .nilIface
      rw [anyI_len] at e
      rw [e] at hown
      exact ⟨some ⟨w.heap.size, 0, none⟩, xs.length, xs.length, (anyI_len xs).symm, rfl, hown, hb, fun h => by cases h⟩

/-- A row of ints that the call owns, as it reads behind other blocks. -/
theorem made_row {w w' : World} {e : TypeId} {a : Option Addr} {cap n : Nat} {vs : List Value} (hn : n = vs.length) (h : w'.ownsRow w.heap.size e 1 (.slice a n cap) n vs) : Row w' a vs := by
  subst hn
  exact row_of_owns (base := w.heap.size) (e := e) (cap := cap) h
end Go.Proofs.YtheochfpidahmaaGreatDoor
