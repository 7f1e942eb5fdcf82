/-
  The exported shims over indices and index at arrays of ints (folder n001_9).
-/
import Derived.Test.YtnboibamehjdgaaGreatDoorIdx3
namespace Go.Proofs.YtnboibamehjdgaaGreatDoor
open Go Go.RowKit

theorem row_any {w w' : World} {e : TypeId} {a : Option Addr} {cap : Nat} {vs : List Value} (h : w'.ownsRow w.heap.size e 1 (.slice a vs.length cap) vs.length vs) : Row w' a vs := made_row rfl h

theorem own_le_cap {w : World} {base n m cap : Nat} {e : TypeId} {a : Option Addr} {xs : List Value} (h : w.ownsRow base e 1 (.slice a m cap) n xs) : m ≤ cap := by
  rcases h.2 with ⟨h, _⟩ | ⟨g, cap', cur, h, _, _, hle, _⟩
  · simp only [Value.slice.injEq] at h; omega
  · simp only [Value.slice.injEq] at h; omega
theorem occs_len (vs xs : List Int) : (occs vs xs).length ≤ vs.length + 1 := by
  unfold occs
  split
  · simp
  · exact Nat.le_trans (occK_len vs xs _) (by omega)

set_option maxRecDepth 100000 in
set_option maxHeartbeats 1600000 in
theorem zzIndicesOne_any (a : Option Addr) (c : Nat) (vs : List Int) (x : Int) (w : World) (hl : vs.length ≤ 65536) (r : Row w a (intV vs)) :
    Calls Tryz.prog 15 #[.slice a vs.length c, .int .i64 x] w (FromRow w (occs vs [x])) := by
  have mk := fun (x : Value) (w : World) => run_makeInterface (P := Tryz.prog) w 40 x (by kernel_rfl)
  have mk2 := fun (x : Value) (w : World) => run_makeInterface (P := Tryz.prog) w 3 x (by kernel_rfl)
  go_enter Tryz.func15, Tryz.ntmps15
  go_wp2_with fail
  refine (toAny_any a c vs w (by omega) r).mono ?_
  rintro e w1 ⟨a1, c1, n1, hn1, rfl, hown1, hb1, _⟩
  rw [anyI_len] at hn1
  subst hn1
  have r1 : Row w1 a1 (anyI vs) := made_row (anyI_len vs).symm hown1
  have hc1' : vs.length ≤ c1 := own_le_cap hown1
  clear hown1
  go_wp2_with fail
  refine (funcIndicesOne_any a1 c1 vs x w1 hl hc1' r1).mono ?_
  rintro e w2 ⟨a2, c2, _, rfl, rfl, hown2, hb2⟩
  have r2 := row_any hown2
  have hb3 := hb1.trans (hb2.mono hb1.size)
  have hlo := occs_len vs [x]
  rw [anyI_len]
  clear hown2 r1 r hb1 hb2
  go_wp2_with fail
  refine (fromAny_any a2 c2 (occs vs [x]) w2 (by omega) r2).mono ?_
  rintro e w3 ⟨a3, c3, rfl, r3, hb4⟩
  go_wp2
  go_ret2
  exact ⟨a3, c3, rfl, r3, hb3.trans (hb4.mono hb3.size)⟩

set_option maxRecDepth 100000 in
set_option maxHeartbeats 1600000 in
theorem zzIndicesArr_any (a b : Option Addr) (c d : Nat) (vs xs : List Int) (w : World) (hl : vs.length ≤ 65536) (hl2 : xs.length ≤ 65536) (r : Row w a (intV vs)) (q : Row w b (intV xs)) :
    Calls Tryz.prog 16 #[.slice a vs.length c, .slice b xs.length d] w (FromRow w (occs vs xs)) := by
  have mk := fun (x : Value) (w : World) => run_makeInterface (P := Tryz.prog) w 40 x (by kernel_rfl)
  go_enter Tryz.func16, Tryz.ntmps16
  go_wp2_with fail
  refine (toAny_any a c vs w (by omega) r).mono ?_
  rintro e w1 ⟨a1, c1, n1, hn1, rfl, hown1, hb1, _⟩
  rw [anyI_len] at hn1
  subst hn1
  have r1 : Row w1 a1 (anyI vs) := made_row (anyI_len vs).symm hown1
  have hc1' : vs.length ≤ c1 := own_le_cap hown1
  have q1 := q.below (Nat.le_refl _) hb1
  clear hown1 r q
  go_wp2_with fail
  refine (toAny_any b d xs w1 (by omega) q1).mono ?_
  rintro e w2 ⟨b2, d2, n2, hn2, rfl, hown2, hb2, _⟩
  rw [anyI_len] at hn2
  subst hn2
  have q2 : Row w2 b2 (anyI xs) := made_row (anyI_len xs).symm hown2
  have r2 := r1.below (Nat.le_refl _) hb2
  have hb12 := hb1.trans (hb2.mono hb1.size)
  clear hown2 r1 q1 hb1 hb2
  go_wp2_with fail
  refine (funcIndicesArr_any a1 b2 c1 d2 vs xs w2 hl hl2 hc1' r2 q2).mono ?_
  rintro e w3 ⟨a3, c3, _, rfl, rfl, hown3, hb3⟩
  have r3 := row_any hown3
  have hb13 := hb12.trans (hb3.mono hb12.size)
  have hlo := occs_len vs xs
  rw [anyI_len]
  clear hown3 r2 q2 hb12 hb3
  go_wp2_with fail
  refine (fromAny_any a3 c3 (occs vs xs) w3 (by omega) r3).mono ?_
  rintro e w4 ⟨a4, c4, rfl, r4, hb4⟩
  go_wp2
  go_ret2
  exact ⟨a4, c4, rfl, r4, hb13.trans (hb4.mono hb13.size)⟩

theorem zzIndicesNull_any (x : Int) (w : World) :
    Calls Tryz.prog 17 #[.int .i64 x] w fun e w' => e = .returned (.bool true) ∧ w = w' := by
  have mk2 := fun (x : Value) (w : World) => run_makeInterface (P := Tryz.prog) w 3 x (by kernel_rfl)
  have h1 := fun (w : World) => nil_nil w
  go_enter Tryz.func17, Tryz.ntmps17
  go_wp2_with fail
  refine (funcIndicesNil_any _ w).mono ?_
  rintro e w1 ⟨rfl, rfl⟩
  go_wp2
  go_ret
  exact ⟨rfl, rfl⟩
end Go.Proofs.YtnboibamehjdgaaGreatDoor
