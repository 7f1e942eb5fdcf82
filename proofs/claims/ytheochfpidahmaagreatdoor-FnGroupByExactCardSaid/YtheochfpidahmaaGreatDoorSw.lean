/-
  sort's swapRange_func and rotate_func by their contracts, over any program that has the library's text.
-/
import Derived.Test.YtheochfpidahmaaGreatDoorSt
import Derived.Shelf.GgSortMore.Stable
namespace Go.Proofs.YtheochfpidahmaaGreatDoor
open Go Go.Shelf Go.RowKit Go.Lib Go.Sort Go.Proofs
variable {P : Program} {ρ : Ren}

/-- What lay outside the row's block lies there still. -/
def Kept (blk : Nat) (W w' : World) : Prop := W.heap.size ≤ w'.heap.size ∧ ∀ p : Addr, p.block < W.heap.size → p.block ≠ blk → w'.cell? p = W.cell? p
theorem Kept.refl (blk : Nat) (W : World) : Kept blk W W := ⟨Nat.le_refl _, fun _ _ _ => rfl⟩
theorem Kept.trans {blk : Nat} {A B C : World} (h : Kept blk A B) (k : Kept blk B C) : Kept blk A C :=
  ⟨Nat.le_trans h.1 k.1, fun p h1 h2 => (k.2 p (Nat.lt_of_lt_of_le h1 h.1) h2).trans (h.2 p h1 h2)⟩
theorem Kept.drewN {blk : Nat} {A B : World} (h : Kept blk A B) (q : Nat) : Kept blk A (B.drewN q) := h
theorem Kept.alloc {blk : Nat} {A B : World} (h : Kept blk A B) (o : Obj) : Kept blk A (B.alloc o) := by
  rw [alloc_eq_grow]
  refine ⟨by rw [size_grow]; exact Nat.le_trans h.1 (Nat.le_add_right _ _), fun p h1 h2 => ?_⟩
  rw [cell?_grow _ _ _ (Nat.lt_of_lt_of_le h1 h.1)]
  exact h.2 p h1 h2
theorem cell?_mapBlock_other (w : World) (blk : Nat) (f : Array Value → Array Value) (p : Addr) (h : p.block ≠ blk) : (mapBlock w blk f).cell? p = w.cell? p := by
  simp only [mapBlock, World.cell?, Array.getElem?_modify]
  rw [if_neg (Ne.symm h)]
theorem Kept.swap {blk : Nat} {A B : World} (h : Kept blk A B) (i j : Nat) (u v : Value) : Kept blk A ((B.setCell ⟨blk, i, none⟩ u).setCell ⟨blk, j, none⟩ v) := by
  rw [setCell_eq, setCell_eq]
  refine ⟨by simpa [mapBlock] using h.1, fun p h1 h2 => ?_⟩
  rw [cell?_mapBlock_other _ _ _ _ h2, cell?_mapBlock_other _ _ _ _ h2]
  exact h.2 p h1 h2

/-- The sort's surroundings: the caller's world w0, its row, its 'swap'. -/
structure Env (P : Program) (enc : Nat → Value) (w0 : World) (blk off : Nat) (d0 : Array Nat) (sf : Nat) (sb : Array Value) : Prop where
  holds : Holds enc w0 blk off d0
  lt : blk < w0.heap.size
  swap : SwapSwaps P sf sb enc blk off d0.size
  small : d0.size < 4611686018427387904

/-- Permuted within every stretch that holds [x, y) . -/
def PermAll (x y : Nat) (d d' : Array Nat) : Prop := ∀ lo hi, lo ≤ x → y ≤ hi → hi ≤ d.size → PermIn lo hi d d'
theorem PermAll.refl (x y : Nat) (d : Array Nat) : PermAll x y d d := fun lo hi _ _ _ => permIn_refl d lo hi
theorem PermAll.swp {x y : Nat} {d d' : Array Nat} (h : PermAll x y d d') (hs : d'.size = d.size) (i j : Nat) (h1 : x ≤ i) (h2 : i < y) (h3 : x ≤ j) (h4 : j < y) : PermAll x y d (swp d' i j) := fun lo hi a b c =>
  permIn_trans d d' _ lo hi (h lo hi a b c) (swp_permIn d' lo hi i j (by omega) (by omega) (by omega) (by omega) (by omega))
theorem PermAll.trans {x y : Nat} {d d' d'' : Array Nat} (h : PermAll x y d d') (hs : d'.size = d.size) (k : PermAll x y d' d'') : PermAll x y d d'' := fun lo hi a b c =>
  permIn_trans d d' d'' lo hi (h lo hi a b c) (k lo hi a b (by omega))
theorem PermAll.mono {x y x' y' : Nat} {d d' : Array Nat} (h : PermAll x y d d') (h1 : x' ≤ x) (h2 : y ≤ y') : PermAll x' y' d d' := fun lo hi a b c => h lo hi (by omega) (by omega) c

/-- What a function of the family leaves: the row holds some d' of which 'R' is said; what lay elsewhere lies there still. -/
def Leaves (enc : Nat → Value) (w0 : World) (blk off : Nat) (W : World) (R : Array Nat → Prop) (e : Ending) (w' : World) : Prop :=
  e = .returned (.tuple #[]) ∧ ∃ d', R d' ∧ SW enc w0 blk off d' w' ∧ Kept blk W w'

set_option maxHeartbeats 2000000 in
set_option maxRecDepth 100000 in
theorem swapRange_w (L : LaysGt.n49 P ρ) {enc : Nat → Value} {g : Nat} {lb : Array Value} {sf : Nat} {sb : Array Value} {w0 : World} {blk off : Nat} {d0 : Array Nat} (E : Env P enc w0 blk off d0 sf sb)
    (d : Array Nat) (hd : d.size = d0.size) (W : World) (hS : SW enc w0 blk off d W) (a b n x y : Nat) (hr : a + n ≤ b ∨ b + n ≤ a) (ha : x ≤ a) (hb : x ≤ b) (h1 : a + n ≤ y) (h2 : b + n ≤ y) (hy : y ≤ d.size) :
    Calls P (ρ.f 49) #[.agg #[.func (.func g) #[] lb, .func (.func sf) #[] sb], .int .i64 a, .int .i64 b, .int .i64 n] W
      (Leaves enc w0 blk off W fun d' => d'.size = d.size ∧ (∀ t, d'[t]! = swAt d a b n t) ∧ PermAll x y d d') := by
  have mixed := L.mixed; have t0 := L.t0; have a0 := L.a0; have z0 := L.z0; have v0 := L.v0; have t3 := L.t3; have a3 := L.a3; have z3 := L.z3; have v3 := L.v3; have t4 := L.t4; have a4 := L.a4; have z4 := L.z4; have v4 := L.v4; have t26 := L.t26; have a26 := L.a26; have z26 := L.z26; have v26 := L.v26; have t38 := L.t38; have a38 := L.a38; have z38 := L.z38; have v38 := L.v38; have t42 := L.t42; have a42 := L.a42; have z42 := L.z42; have v42 := L.v42
  have u42 := run_underlying L.t42
  have hsz := E.small
  have hltW := hS.lt E.lt
  go_enter L.f49, BodyGt.n49_ntmps ρ
  go_wp2
  go_loopw [8] (fun vi wr => ∃ (i : Nat) (dk : Array Nat), vi = .int .i64 i ∧ i ≤ n ∧ dk.size = d.size ∧ Hid (∀ t, dk[t]! = swAt d a b i t) ∧ Hid (PermAll x y d dk) ∧ SW enc w0 blk off dk wr ∧ Kept blk W wr ∧ wr.cell? ⟨W.heap.size, 1, none⟩ = some (.func (.func sf) #[] sb))
    (fun vi _ => n - (intOf vi).toNat)
  case atStart => exact ⟨0, d, rfl, by omega, rfl, fun t => (swAt_zero d a b t).symm, PermAll.refl x y d, hS.alloc _, (Kept.refl blk W).alloc _, by simp⟩
  case round =>
    obtain ⟨i, dk, rfl, hi, hsk, HA, HP, hSk, hK, hc⟩ := hrel
    by_cases hlt : i < n
    · have hs := E.swap wr dk (hSk.holds E.lt E.holds (hsk.trans hd)) (hsk.trans hd) (a + i) (b + i) (by omega) (by omega)
      have hS2 := hSk.swap E.lt (a + i) (b + i) (by omega) (by omega)
      have hK2 := hK.swap (off + (a + i)) (off + (b + i)) (enc dk[b + i]!) (enc dk[a + i]!)
      have hc2 : ((wr.setCell ⟨blk, off + (a + i), none⟩ (enc dk[b + i]!)).setCell ⟨blk, off + (b + i), none⟩ (enc dk[a + i]!)).cell? ⟨W.heap.size, 1, none⟩ = some (.func (.func sf) #[] sb) := by
        rw [setCell_eq, setCell_eq, cell?_mapBlock_other _ _ _ _ (by show W.heap.size ≠ blk; omega), cell?_mapBlock_other _ _ _ _ (by show W.heap.size ≠ blk; omega)]
        exact hc
      have HA2 : Hid (∀ t, (swp dk (a + i) (b + i))[t]! = swAt d a b (i + 1) t) := swAt_succ d dk a b i HA.out (by omega) (by omega) (by omega)
      have HP2 : Hid (PermAll x y d (swp dk (a + i) (b + i))) := HP.out.swp hsk _ _ (by omega) (by omega) (by omega) (by omega)
      have hs2 : (swp dk (a + i) (b + i)).size = d.size := by rw [size_swp]; exact hsk
      rw [show ((a + i : Nat) : Int) = (a : Int) + (i : Int) by omega, show ((b + i : Nat) : Int) = (b : Int) + (i : Int) by omega] at hs
      generalize (wr.setCell ⟨blk, off + (a + i), none⟩ (enc dk[b + i]!)).setCell ⟨blk, off + (b + i), none⟩ (enc dk[a + i]!) = w2 at hs hS2 hK2 hc2
      generalize swp dk (a + i) (b + i) = d2 at hS2 HA2 HP2 hs2
      clear hSk hK HA HP
      go_wp2
      go_roundw
      case rel => exact ⟨i + 1, d2, by go_num, by omega, hs2, HA2, HP2, hS2, hK2, hc2⟩
      case measure => simp [intOf]; omega
    · have hi' : i = n := by omega
      subst hi'
      go_wp2
      go_end0
      exact ⟨rfl, dk, ⟨hsk, HA.out, HP.out⟩, hSk, hK⟩
/-- 'data' as it lies in its own block. -/
def Boxed (W wr : World) (g : Nat) (lb : Array Value) (sf : Nat) (sb : Array Value) : Prop :=
  wr.cell? ⟨W.heap.size, 0, none⟩ = some (.func (.func g) #[] lb) ∧ wr.cell? ⟨W.heap.size, 1, none⟩ = some (.func (.func sf) #[] sb)

set_option maxHeartbeats 4000000 in
set_option maxRecDepth 100000 in
theorem rotate_w (L : LaysGt.n42 P ρ) {enc : Nat → Value} {g : Nat} {lb : Array Value} {sf : Nat} {sb : Array Value} {w0 : World} {blk off : Nat} {d0 : Array Nat} (E : Env P enc w0 blk off d0 sf sb)
    (d : Array Nat) (hd : d.size = d0.size) (W : World) (hS : SW enc w0 blk off d W) (a m b : Nat) (ham : a < m) (hmb : m < b) (hb : b ≤ d.size) :
    Calls P (ρ.f 42) #[.agg #[.func (.func g) #[] lb, .func (.func sf) #[] sb], .int .i64 a, .int .i64 m, .int .i64 b] W
      (Leaves enc w0 blk off W fun d' => d'.size = d.size ∧ (∀ t, d'[t]! = rotAt d a m b t) ∧ PermAll a b d d') := by
  have mixed := L.mixed; have t0 := L.t0; have a0 := L.a0; have z0 := L.z0; have v0 := L.v0; have t3 := L.t3; have a3 := L.a3; have z3 := L.z3; have v3 := L.v3; have t4 := L.t4; have a4 := L.a4; have z4 := L.z4; have v4 := L.v4; have t26 := L.t26; have a26 := L.a26; have z26 := L.z26; have v26 := L.v26; have t38 := L.t38; have a38 := L.a38; have z38 := L.z38; have v38 := L.v38; have t42 := L.t42; have a42 := L.a42; have z42 := L.z42; have v42 := L.v42
  have u42 := run_underlying L.t42
  have e49 : ∀ args w, (callFunc (ρ.f 49) args).run P w = .ok (.enter (ρ.f 49) args) w := enters_of L.f49 (by kernel_rfl) rfl
  have hsz := E.small
  have hltW := hS.lt E.lt
  have LS : LaysGt.n49 P ρ := { L with }
  go_enter L.f42, BodyGt.n42_ntmps ρ
  go_wp2
  go_loopw [8, 9] (fun vi vj wr => ∃ (i j : Nat) (dk : Array Nat), vi = .int .i64 i ∧ vj = .int .i64 j ∧ 0 < i ∧ 0 < j ∧ a + i ≤ m ∧ m + j ≤ b ∧ dk.size = d.size ∧ Hid (∀ t, rotAt dk (m - i) m (m + j) t = rotAt d a m b t) ∧ Hid (PermAll a b d dk) ∧ SW enc w0 blk off dk wr ∧ Kept blk W wr ∧
      wr.cell? ⟨W.heap.size, 0, none⟩ = some (.func (.func g) #[] lb) ∧ wr.cell? ⟨W.heap.size, 1, none⟩ = some (.func (.func sf) #[] sb))
    (fun vi vj _ => (intOf vi).toNat + (intOf vj).toNat)
  case atStart => exact ⟨m - a, b - m, d, by congr 1; omega, by congr 1; omega, by omega, by omega, by omega, by omega, rfl, (by show ∀ t, _; intro t; rw [show m - (m - a) = a by omega, show m + (b - m) = b by omega]), PermAll.refl a b d, hS.alloc _, (Kept.refl blk W).alloc _, by simp, by simp⟩
  case round =>
    obtain ⟨i, j, dk, rfl, rfl, hi, hj, hai, hjb, hsk, HA, HP, hSk, hK, hc0, hc1⟩ := hrel
    have hWr : W.heap.size < wr.heap.size := by
      have := World.block_lt_of_cell? wr _ hc0
      exact this
    have keep : ∀ (w2 : World), Kept blk wr w2 → w2.cell? ⟨W.heap.size, 0, none⟩ = some (.func (.func g) #[] lb) ∧ w2.cell? ⟨W.heap.size, 1, none⟩ = some (.func (.func sf) #[] sb) := fun w2 h =>
      ⟨(h.2 ⟨W.heap.size, 0, none⟩ hWr (by show W.heap.size ≠ blk; omega)).trans hc0, (h.2 ⟨W.heap.size, 1, none⟩ hWr (by show W.heap.size ≠ blk; omega)).trans hc1⟩
    have KEEP : Hid _ := keep
    clear keep
    rcases (show j < i ∨ i < j ∨ i = j by omega) with hlt | hlt | rfl
    · have hcall := swapRange_w LS (g := g) (lb := lb) E dk (hsk.trans hd) wr hSk (m - i) m j a b (by omega) (by omega) (by omega) (by omega) (by omega) (by omega)
      rw [show ((m - i : Nat) : Int) = (m : Int) - (i : Int) by omega] at hcall
      have HC : Hid (Calls P (ρ.f 49) _ wr _) := hcall
      have hne : ((i : Int) != (j : Int)) = true := bne_iff_ne.2 (by omega)
      have hgt : decide ((i : Int) > (j : Int)) = true := decide_eq_true (by omega)
      clear hcall hSk
      go_wp2_with (go_at_fn (ρ.f 49); refine HC.out.mono ?_; rintro e w2 ⟨rfl, d2, ⟨q1, q2, q3⟩, hS2, hK2⟩)
      have hs2 : d2.size = d.size := q1.trans hsk
      have HA2 : Hid (∀ t, rotAt d2 (m - (i - j)) m (m + j) t = rotAt d a m b t) := fun t => (rot_left dk d2 m i j q2 (by omega) hlt t).trans (HA.out t)
      have HP2 : Hid (PermAll a b d d2) := HP.out.trans hsk q3
      have hK3 := hK.trans hK2
      obtain ⟨hc2, hc3⟩ := KEEP.out w2 hK2
      clear q1 q2 q3 HA HP HC KEEP
      go_wp2
      go_roundw
      case rel => exact ⟨i - j, j, d2, by congr 1; omega, rfl, by omega, hj, by omega, hjb, hs2, HA2, HP2, hS2, hK3, hc2, hc3⟩
      case measure => simp [intOf]; omega
    · have hcall := swapRange_w LS (g := g) (lb := lb) E dk (hsk.trans hd) wr hSk (m - i) (m + j - i) i a b (by omega) (by omega) (by omega) (by omega) (by omega) (by omega)
      rw [show ((m - i : Nat) : Int) = (m : Int) - (i : Int) by omega, show ((m + j - i : Nat) : Int) = (m : Int) + (j : Int) - (i : Int) by omega] at hcall
      have HC : Hid (Calls P (ρ.f 49) _ wr _) := hcall
      have hne : ((i : Int) != (j : Int)) = true := bne_iff_ne.2 (by omega)
      have hgt : decide ((i : Int) > (j : Int)) = false := decide_eq_false (by omega)
      clear hcall hSk
      go_wp2_with (go_at_fn (ρ.f 49); refine HC.out.mono ?_; rintro e w2 ⟨rfl, d2, ⟨q1, q2, q3⟩, hS2, hK2⟩)
      have hs2 : d2.size = d.size := q1.trans hsk
      have HA2 : Hid (∀ t, rotAt d2 (m - i) m (m + (j - i)) t = rotAt d a m b t) := fun t => (rot_right dk d2 m i j q2 (by omega) hlt t).trans (HA.out t)
      have HP2 : Hid (PermAll a b d d2) := HP.out.trans hsk q3
      have hK3 := hK.trans hK2
      obtain ⟨hc2, hc3⟩ := KEEP.out w2 hK2
      clear q1 q2 q3 HA HP HC KEEP
      go_wp2
      go_roundw
      case rel => exact ⟨i, j - i, d2, rfl, by congr 1; omega, hi, by omega, hai, by omega, hs2, HA2, HP2, hS2, hK3, hc2, hc3⟩
      case measure => simp [intOf]; omega
    · have hcall := swapRange_w LS (g := g) (lb := lb) E dk (hsk.trans hd) wr hSk (m - i) m i a b (by omega) (by omega) (by omega) (by omega) (by omega) (by omega)
      rw [show ((m - i : Nat) : Int) = (m : Int) - (i : Int) by omega] at hcall
      have HC : Hid (Calls P (ρ.f 49) _ wr _) := hcall
      clear hcall hSk KEEP
      go_wp2_with (go_at_fn (ρ.f 49); refine HC.out.mono ?_; rintro e w2 ⟨rfl, d2, ⟨q1, q2, q3⟩, hS2, hK2⟩)
      go_end0
      exact ⟨rfl, d2, ⟨q1.trans hsk, fun t => (rot_mid dk d2 m i q2 (by omega) t).trans (HA.out t), HP.out.trans hsk q3⟩, hS2, hK.trans hK2⟩
end Go.Proofs.YtheochfpidahmaaGreatDoor
