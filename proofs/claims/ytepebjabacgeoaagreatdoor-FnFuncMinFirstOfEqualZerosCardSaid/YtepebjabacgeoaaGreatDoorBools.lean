/-
  The law's copy of a row of bools; min over a row of floats by its exported call (folder n001_91).
-/
import Derived.Test.YtepebjabacgeoaaGreatDoorRep
namespace Go.Proofs.YtepebjabacgeoaaGreatDoor
open Go Go.RowKit

/-- Bools as values. -/
def boolV (xs : List Bool) : List Value := xs.map fun x => .bool x
theorem boolV_get (xs : List Bool) {k : Nat} (h : k < xs.length) : (boolV xs)[k]? = some (.bool xs[k]) := by simp [boolV, h]
theorem boolV_len (xs : List Bool) : (boolV xs).length = xs.length := by simp [boolV]
theorem Tryz.infoBoolC : (Tryz.prog.info? 4).map (fun i => (i.zero, i.size, i.bytes)) = some (some (.bool false), 1, 1) := by kernel_rfl
/-- A slice of bools that reads so. -/
def IsBRow (w w' : World) (xs : List Bool) (v : Value) : Prop := ∃ a c, v = .slice a xs.length c ∧ Row w' a (boolV xs) ∧ Below w.heap.size w w'

theorem filledB_zero (xs : List Bool) (z : Value) : filled (boolV xs) z 0 = List.replicate xs.length z := by rw [filled_zero, boolV_len]

set_option maxRecDepth 100000 in
set_option maxHeartbeats 800000 in
theorem cloneB_any (a : Option Addr) (cap : Nat) (xs : List Bool) (w : World) (hl : xs.length ≤ 1099511627776) (ha : a = none → xs = []) (hcap : a = none → cap = 0) (hrow : Row w a (boolV xs)) :
    Calls Tryz.prog 19 #[.slice a xs.length cap] w fun e w' => ∃ v, e = .returned v ∧ IsBRow w w' xs v := by
  obtain ⟨i0, hi, hz0, hz1, hz2⟩ := info_parts Tryz.infoBoolC
  have hq := fun (w : World) => Lib.run_eql_slice_nil (P := Tryz.prog) w 33 4 a xs.length cap 0 0 Tryz.underlying33
  cases a with
  | none =>
    obtain rfl := ha rfl
    obtain rfl := hcap rfl
    clear ha hcap hq
    have hq := fun (w : World) => Lib.run_eql_slice_nil (P := Tryz.prog) w 33 4 none 0 0 0 0 Tryz.underlying33
    go_enter Tryz.func19, Tryz.ntmps19
    go_wp2
    go_ret
    exact ⟨_, rfl, none, 0, rfl, .inl rfl, Below.refl _ _⟩
  | some ad =>
    clear ha hcap
    go_enter Tryz.func19, Tryz.ntmps19
    go_wp2_with (at_make; refine wpList_make_full _ rfl _ _ 33 rfl w.heap.size 4 i0 (.bool false) 1 Tryz.underlying33 hi hz0 hz1 _ _ _ _ xs.length rfl rfl rfl rfl ?c1 ?c2 ?c3 ?_)
    case c1 => rw [hz2]; omega
    case c2 => unfold maxLen; omega
    case c3 => omega
    intro w1 hown hgrow
    have hb : Below w.heap.size w w1 := (Below.refl _ _).grown hgrow (Nat.le_refl _) (by intro k hk; cases hk)
    have hown' : w1.ownsRow w.heap.size 4 1 (.slice (some ⟨w.heap.size, 0, none⟩) xs.length xs.length) xs.length (filled (boolV xs) (.bool false) 0) := by
      rw [filledB_zero]
      simpa [Value.cells, toList_madeCells_one] using hown
    clear hown hgrow hq
    go_wp2
    go_loopw [4] (fun i wr => ∃ k : Nat, k ≤ xs.length ∧ i = .int .i64 k ∧ wr.ownsRow w.heap.size 4 1 (.slice (some ⟨w.heap.size, 0, none⟩) xs.length xs.length) xs.length (filled (boolV xs) (.bool false) k) ∧ Below w.heap.size w wr)
      (fun i _ => xs.length - (intOf i).toNat)
    case atStart => exact ⟨0, by omega, rfl, hown', hb⟩
    case round =>
      clear hown' hb
      obtain ⟨k, hk, rfl, hown, hb⟩ := hrel
      by_cases hlt : k < xs.length
      · obtain ⟨b, off, had, hbw, hc⟩ := hrow.at (k := k) (by rw [boolV_len]; exact hlt)
        obtain rfl := Option.some.inj had
        have hck : wr.cell? ⟨b, off + k, none⟩ = some (.bool xs[k]) := (hb.cell (p := ⟨b, off + k, none⟩) hbw).trans (hc k _ (boolV_get xs hlt))
        have hc2 : wr.cell? ⟨w.heap.size, k, none⟩ = some (.bool false) := by rw [hown.cellAt k (by omega)]; exact filled_at _ _ _ (by rw [boolV_len]; exact hlt)
        have hf2 := hown.frozenAt k
        obtain ⟨R1, R2⟩ := fill_step hown hb (boolV_get xs hlt)
        clear hc hown hb
        go_wp2
        go_roundw
        case rel => exact ⟨k + 1, by omega, by go_num, R1, R2⟩
        case measure => simp [intOf]; omega
      · go_wp2
        go_ret
        have hk' : k = xs.length := by omega
        subst hk'
        have e := filled_all (boolV xs) (.bool false)
        rw [boolV_len] at e
        rw [e] at hown
        exact ⟨_, rfl, some ⟨w.heap.size, 0, none⟩, xs.length, rfl, made_row (boolV_len xs).symm hown, hb⟩

set_option maxRecDepth 100000 in
theorem zzMinF_any (a : Option Addr) (c : Nat) (fs : List Nat) (vs : List Int) (w : World) (hl : fs.length ≤ 1099511627776) (hpos : 0 < fs.length) (hrep : ∀ i, i < fs.length → Rep (fs.getD i 0) (vs.getD i 0)) (r : Row w a (anyF fs)) :
    Calls Tryz.prog 12 #[.iface 26 (.slice a fs.length c)] w fun e w' => ∃ j, First vs fs.length j ∧ e = .returned (.iface 38 (.float .f64 (fs.getD j 0))) ∧ Drawn w w' := by
  have h2 := fun (v : Value) (w : World) => a_arr v w
  have H : Hid (Calls Tryz.prog 51 _ w _) := minMaxByF_any a c fs vs w hl hpos hrep r
  clear r hrep
  have HF : Hid (Calls Tryz.prog 35 #[.iface 26 (.slice a fs.length c)] w fun e w' => ∃ j, First vs fs.length j ∧ e = .returned (.iface 38 (.float .f64 (fs.getD j 0))) ∧ Drawn w w') := by
    show Calls _ _ _ _ _
    go_enter Tryz.func35, Tryz.ntmps35
    go_wp2_with (go_at_call 51; refine H.out.mono ?_; rintro e w' ⟨j, hj, rfl, hd⟩)
    go_ret
    exact ⟨j, hj, rfl, hd⟩
  clear H
  go_enter Tryz.func12, Tryz.ntmps12
  go_wp2_with (go_at_call 35; refine HF.out.mono ?_; rintro e w' ⟨j, hj, rfl, hd⟩)
  go_ret
  exact ⟨j, hj, rfl, hd⟩

/-- The float of a value and its flag: minus zero where the value is 0 and the flag set. -/
def fbits (v : Int) (n : Bool) : Nat := if v = 0 ∧ n = true then Ieee.double.word true 0 else F v 0
theorem fbits_rep (v : Int) (n : Bool) (h : Fits v) : Rep (fbits v n) v := by
  unfold fbits
  split
  · rename_i h0
    rw [h0.1]
    exact rep_negZero
  · exact rep_F v h
end Go.Proofs.YtepebjabacgeoaaGreatDoor
