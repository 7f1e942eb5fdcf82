/-
  The laws' own minimum, maximum, first and last index (folder n001_67).
-/
import Derived.Test.YtbochicgnoannaaGreatDoorBestFns
namespace Go.Proofs.YtbochicgnoannaaGreatDoor
open Go Go.RowKit

def Least (xs : List Int) (k : Nat) (m : Int) : Prop := (∃ j, j < k ∧ xs.getD j 0 = m) ∧ ∀ i, i < k → m ≤ xs.getD i 0
def Greatest (xs : List Int) (k : Nat) (m : Int) : Prop := (∃ j, j < k ∧ xs.getD j 0 = m) ∧ ∀ i, i < k → xs.getD i 0 ≤ m
theorem Least.one {xs : List Int} (h : 0 < xs.length) : Least xs 1 xs[0] := by
  refine ⟨⟨0, by omega, getD_of h⟩, fun i hi => ?_⟩
  obtain rfl : i = 0 := by omega
  rw [getD_of h]
  exact Int.le_refl _
theorem Greatest.one {xs : List Int} (h : 0 < xs.length) : Greatest xs 1 xs[0] := by
  refine ⟨⟨0, by omega, getD_of h⟩, fun i hi => ?_⟩
  obtain rfl : i = 0 := by omega
  rw [getD_of h]
  exact Int.le_refl _

set_option maxRecDepth 100000 in
set_option maxHeartbeats 400000 in
theorem minOf_any (a : Option Addr) (c : Nat) (xs : List Int) (w : World) (hl : xs.length ≤ 1099511627776) (hpos : 0 < xs.length) (r : Row w a (intV xs)) :
    Calls Tryz.prog 14 #[.slice a xs.length c] w fun e w' => ∃ m, Least xs xs.length m ∧ e = .returned (.int .i64 m) ∧ w = w' := by
  obtain ⟨b, off, rfl, hbw, hc⟩ := r.at (k := 0) (by rw [intV_len]; exact hpos)
  have hc0 : w.cell? ⟨b, off + 0, none⟩ = some (.int .i64 xs[0]) := hc 0 _ (intV_get xs hpos)
  rw [Nat.add_zero] at hc0
  have HC : Hid (∀ j u, (intV xs)[j]? = some u → w.cell? ⟨b, off + j, none⟩ = some u) := hc
  have hp0 : (0 : Int) < (xs.length : Int) := by omega
  clear hc r hbw
  go_enter Tryz.func14, Tryz.ntmps14
  go_wp2_with fail
  clear hc0
  go_loopw [3, 4] (fun y v wr => ∃ (k : Nat) (m : Int), 1 ≤ k ∧ k ≤ xs.length ∧ v = .int .i64 k ∧ y = .int .i64 m ∧ Hid (Least xs k m) ∧ wr = w) (fun _ v _ => xs.length - (intOf v).toNat)
  case atStart => exact ⟨1, xs[0], by omega, by omega, by go_num, rfl, Least.one hpos, rfl⟩
  case round =>
    obtain ⟨k, m, hk1, hk, rfl, rfl, hm, rfl⟩ := hrel
    by_cases hlt : k < xs.length
    · have hck : wr.cell? ⟨b, off + k, none⟩ = some (.int .i64 xs[k]) := HC.out k _ (intV_get xs hlt)
      have hki : (k : Int) < (xs.length : Int) := by omega
      have e1 := getD_of hlt
      by_cases hx : xs[k] < m
      · have hm' : Hid (Least xs (k + 1) xs[k]) := by
          obtain ⟨⟨j, hj, hj2⟩, ha⟩ := hm.out
          refine ⟨⟨k, by omega, e1⟩, fun i hi => ?_⟩
          rcases (show i < k ∨ i = k by omega) with h | rfl
          · have := ha i h; omega
          · rw [e1]; exact Int.le_refl _
        clear e1
        go_wp2_with fail
        go_roundw
        case rel => exact ⟨k + 1, xs[k], by omega, by omega, by go_num, rfl, hm', by first | rfl | trivial⟩
        case measure => simp [intOf]; omega
      · have hm' : Hid (Least xs (k + 1) m) := by
          obtain ⟨⟨j, hj, hj2⟩, ha⟩ := hm.out
          refine ⟨⟨j, by omega, hj2⟩, fun i hi => ?_⟩
          rcases (show i < k ∨ i = k by omega) with h | rfl
          · exact ha i h
          · rw [e1]; omega
        clear e1
        go_wp2_with fail
        go_roundw
        case rel => exact ⟨k + 1, m, by omega, by omega, by go_num, rfl, hm', by first | rfl | trivial⟩
        case measure => simp [intOf]; omega
    · obtain rfl : k = xs.length := by omega
      go_wp2
      go_ret
      exact ⟨m, hm.out, rfl, rfl⟩

set_option maxRecDepth 100000 in
set_option maxHeartbeats 400000 in
theorem maxOf_any (a : Option Addr) (c : Nat) (xs : List Int) (w : World) (hl : xs.length ≤ 1099511627776) (hpos : 0 < xs.length) (r : Row w a (intV xs)) :
    Calls Tryz.prog 16 #[.slice a xs.length c] w fun e w' => ∃ m, Greatest xs xs.length m ∧ e = .returned (.int .i64 m) ∧ w = w' := by
  obtain ⟨b, off, rfl, hbw, hc⟩ := r.at (k := 0) (by rw [intV_len]; exact hpos)
  have hc0 : w.cell? ⟨b, off + 0, none⟩ = some (.int .i64 xs[0]) := hc 0 _ (intV_get xs hpos)
  rw [Nat.add_zero] at hc0
  have HC : Hid (∀ j u, (intV xs)[j]? = some u → w.cell? ⟨b, off + j, none⟩ = some u) := hc
  have hp0 : (0 : Int) < (xs.length : Int) := by omega
  clear hc r hbw
  go_enter Tryz.func16, Tryz.ntmps16
  go_wp2_with fail
  clear hc0
  go_loopw [3, 4] (fun y v wr => ∃ (k : Nat) (m : Int), 1 ≤ k ∧ k ≤ xs.length ∧ v = .int .i64 k ∧ y = .int .i64 m ∧ Hid (Greatest xs k m) ∧ wr = w) (fun _ v _ => xs.length - (intOf v).toNat)
  case atStart => exact ⟨1, xs[0], by omega, by omega, by go_num, rfl, Greatest.one hpos, rfl⟩
  case round =>
    obtain ⟨k, m, hk1, hk, rfl, rfl, hm, rfl⟩ := hrel
    by_cases hlt : k < xs.length
    · have hck : wr.cell? ⟨b, off + k, none⟩ = some (.int .i64 xs[k]) := HC.out k _ (intV_get xs hlt)
      have hki : (k : Int) < (xs.length : Int) := by omega
      have e1 := getD_of hlt
      by_cases hx : m < xs[k]
      · have hm' : Hid (Greatest xs (k + 1) xs[k]) := by
          obtain ⟨⟨j, hj, hj2⟩, ha⟩ := hm.out
          refine ⟨⟨k, by omega, e1⟩, fun i hi => ?_⟩
          rcases (show i < k ∨ i = k by omega) with h | rfl
          · have := ha i h; omega
          · rw [e1]; exact Int.le_refl _
        clear e1
        go_wp2_with fail
        go_roundw
        case rel => exact ⟨k + 1, xs[k], by omega, by omega, by go_num, rfl, hm', by first | rfl | trivial⟩
        case measure => simp [intOf]; omega
      · have hm' : Hid (Greatest xs (k + 1) m) := by
          obtain ⟨⟨j, hj, hj2⟩, ha⟩ := hm.out
          refine ⟨⟨j, by omega, hj2⟩, fun i hi => ?_⟩
          rcases (show i < k ∨ i = k by omega) with h | rfl
          · exact ha i h
          · rw [e1]; omega
        clear e1
        go_wp2_with fail
        go_roundw
        case rel => exact ⟨k + 1, m, by omega, by omega, by go_num, rfl, hm', by first | rfl | trivial⟩
        case measure => simp [intOf]; omega
    · obtain rfl : k = xs.length := by omega
      go_wp2
      go_ret
      exact ⟨m, hm.out, rfl, rfl⟩

set_option maxRecDepth 100000 in
set_option maxHeartbeats 400000 in
theorem firstIdx_any (a : Option Addr) (c : Nat) (xs : List Int) (m : Int) (w : World) (hl : xs.length ≤ 1099511627776) (hm : Least xs xs.length m) (r : Row w a (intV xs)) :
    Calls Tryz.prog 13 #[.slice a xs.length c, .int .i64 m] w fun e w' => ∃ j : Nat, Best true xs xs.length j ∧ e = .returned (.int .i64 j) ∧ Drawn w w' := by
  have HM : Hid (Least xs xs.length m) := hm
  clear hm
  go_enter Tryz.func13, Tryz.ntmps13
  go_wp2_with fail
  go_loopw [5] (fun v wr => ∃ k : Nat, k ≤ xs.length ∧ v = .int .i64 k ∧ Hid (∀ i, i < k → xs.getD i 0 ≠ m) ∧ Drawn w wr) (fun v _ => xs.length - (intOf v).toNat)
  case atStart => exact ⟨0, by omega, rfl, (by show ∀ i, i < 0 → _; intro i hi; omega), Drawn.refl w⟩
  case round =>
    obtain ⟨k, hk, rfl, hn, hd⟩ := hrel
    by_cases hlt : k < xs.length
    · obtain ⟨b, off, rfl, hbw, hc⟩ := r.at (k := k) (by rw [intV_len]; exact hlt)
      have hck : wr.cell? ⟨b, off + k, none⟩ = some (.int .i64 xs[k]) := (hd.cell _).trans (hc k _ (intV_get xs hlt))
      have hki : (k : Int) < (xs.length : Int) := by omega
      have e1 := getD_of hlt
      clear hc
      by_cases hx : xs[k] = m
      · have hB : Hid (Best true xs xs.length k) := by
          obtain ⟨_, ha⟩ := HM.out
          refine ⟨hlt, fun i hi => ⟨fun _ => ⟨?_, fun h => ?_⟩, fun e => by cases e⟩⟩
          · have := ha i hi; rw [e1, hx]; exact this
          · have h1 := ha i hi
            have h2 := hn.out i h
            rw [e1, hx]; omega
        have hxe : (xs[k] != m) = false := by simp [hx]
        clear e1 hx
        go_wp2_with fail
        go_ret
        exact ⟨k, hB.out, rfl, by first | exact hd | exact hd.more _⟩
      · have hxe : (xs[k] != m) = true := by simp [hx]
        have hn' : Hid (∀ i, i < k + 1 → xs.getD i 0 ≠ m) := by
          show ∀ i, i < k + 1 → _
          intro i hi
          rcases (show i < k ∨ i = k by omega) with h | rfl
          · exact hn.out i h
          · rw [e1]; exact hx
        clear e1 hx
        go_wp2_with fail
        go_roundw
        case rel => exact ⟨k + 1, by omega, by go_num, hn', by first | exact hd | exact hd.more _⟩
        case measure => simp [intOf]; omega
    · obtain ⟨⟨j, hj, hj2⟩, _⟩ := HM.out
      exact absurd hj2 (hn.out j (by omega))

set_option maxRecDepth 100000 in
set_option maxHeartbeats 400000 in
theorem lastIdx_any (a : Option Addr) (c : Nat) (xs : List Int) (m : Int) (w : World) (hl : xs.length ≤ 1099511627776) (hm : Greatest xs xs.length m) (r : Row w a (intV xs)) :
    Calls Tryz.prog 15 #[.slice a xs.length c, .int .i64 m] w fun e w' => ∃ j : Nat, Best false xs xs.length j ∧ e = .returned (.int .i64 j) ∧ Drawn w w' := by
  have HM : Hid (Greatest xs xs.length m) := hm
  clear hm
  go_enter Tryz.func15, Tryz.ntmps15
  go_wp2_with fail
  go_loopw [5] (fun v wr => ∃ k : Nat, k ≤ xs.length ∧ v = .int .i64 ((k : Int) - 1) ∧ Hid (∀ i, k ≤ i → i < xs.length → xs.getD i 0 ≠ m) ∧ Drawn w wr) (fun v _ => (intOf v + 1).toNat)
  case atStart => exact ⟨xs.length, by omega, by first | rfl | go_num, (by show ∀ i, _ → _ → _; intro i hi h2; omega), Drawn.refl w⟩
  case round =>
    obtain ⟨k, hk, rfl, hn, hd⟩ := hrel
    by_cases hk0 : k = 0
    · obtain ⟨⟨j, hj, hj2⟩, _⟩ := HM.out
      exact absurd hj2 (hn.out j (by omega) hj)
    · obtain ⟨k, rfl⟩ : ∃ i, k = i + 1 := ⟨k - 1, by omega⟩
      have hlt : k < xs.length := by omega
      obtain ⟨b, off, rfl, hbw, hc⟩ := r.at (k := k) (by rw [intV_len]; exact hlt)
      have hck : wr.cell? ⟨b, off + k, none⟩ = some (.int .i64 xs[k]) := (hd.cell _).trans (hc k _ (intV_get xs hlt))
      have hki : (k : Int) < (xs.length : Int) := by omega
      have hke : ((k + 1 : Nat) : Int) - 1 = (k : Int) := by omega
      have e1 := getD_of hlt
      rw [hke]
      clear hc hk0
      by_cases hx : xs[k] = m
      · have hB : Hid (Best false xs xs.length k) := by
          obtain ⟨_, ha⟩ := HM.out
          refine ⟨hlt, fun i hi => ⟨(fun e => by cases e), fun _ => ⟨?_, fun h => ?_⟩⟩⟩
          · have := ha i hi; rw [e1, hx]; exact this
          · have h1 := ha i hi
            have h2 := hn.out i (by omega) hi
            rw [e1, hx]; omega
        have hxe : (xs[k] != m) = false := by simp [hx]
        clear e1 hx hke
        go_wp2_with fail
        go_ret
        exact ⟨k, hB.out, rfl, by first | exact hd | exact hd.more _⟩
      · have hxe : (xs[k] != m) = true := by simp [hx]
        have hn' : Hid (∀ i, k ≤ i → i < xs.length → xs.getD i 0 ≠ m) := by
          show ∀ i, _ → _ → _
          intro i hi h2
          rcases (show k + 1 ≤ i ∨ i = k by omega) with h | rfl
          · exact hn.out i h h2
          · rw [e1]; exact hx
        clear e1 hx hke
        go_wp2_with fail
        go_roundw
        case rel => exact ⟨k, by omega, by first | rfl | go_num, hn', by first | exact hd | exact hd.more _⟩
        case measure => simp [intOf]
end Go.Proofs.YtbochicgnoannaaGreatDoor
