/-
  sortItems at two rows of ints of one length: the pointers to the items, sorted by key, equal keys in their places' order (folder n001_68).
-/
import Derived.Test.YtheochfpidahmaaGreatDoorRef
import Derived.Test.YtheochfpidahmaaGreatDoorSl8
import Derived.RegionTactic
import Derived.BigRegion
namespace Go.Proofs.YtheochfpidahmaaGreatDoor
open Go Go.RowKit Go.Shelf Go.Lib Go.Sort Go.Proofs

theorem Tryz.infoItemP : (Tryz.prog.info? 46).map (fun i => (i.zero, i.size, i.bytes)) = some (some (.pointer none), 1, 8) := by kernel_rfl

/-- The key at a place (a place beyond the end: the last). -/
def keyF (ks : List Int) (j : Nat) : Int := ks.getD (min j (ks.length - 1)) 0
theorem keyF_at {ks : List Int} {j : Nat} (h : j < ks.length) : keyF ks j = ks[j] := by
  unfold keyF
  rw [show min j (ks.length - 1) = j by omega]
  simp [h]
/-- A pointer to the item of place j. -/
def itemP (B n : Nat) (j : Nat) : Value := .pointer (some ⟨B + min j (n - 1), 0, none⟩)
theorem itemP_at {B n j : Nat} (h : j < n) : itemP B n j = .pointer (some ⟨B + j, 0, none⟩) := by
  unfold itemP
  rw [show min j (n - 1) = j by omega]
/-- The items of places below k lie in blocks B, B + 1, .. -/
def Items (w : World) (B : Nat) (vs ks : List Int) (k : Nat) : Prop :=
  ∀ j, j < k → w.cell? ⟨B + j, 0, none⟩ = some (.iface 3 (.int .i64 (vs.getD j 0))) ∧ w.cell? ⟨B + j, 1, none⟩ = some (.iface 3 (.int .i64 (ks.getD j 0)))

theorem cmpI_neg {a b : Int} : decide (cmpI a b < 0) = decide (a < b) := by
  unfold cmpI
  split
  · rename_i h; rw [decide_eq_true h]; rfl
  · rename_i h
    rw [decide_eq_false h]
    split <;> rfl

set_option maxRecDepth 100000 in
set_option maxHeartbeats 1600000 in
/-- sortItems' own comparison. -/
theorem less_any (Bs blk n c : Nat) (P : Nat → Nat) (K : Nat → Int) (W : World) (hbox : W.cell? ⟨Bs, 0, none⟩ = some (.slice (some ⟨blk, 0, none⟩) n c))
    (hp : ∀ t, t < n → W.cell? ⟨blk, t, none⟩ = some (.pointer (some ⟨P t, 0, none⟩))) (hk : ∀ t, t < n → W.cell? ⟨P t, 1, none⟩ = some (.iface 3 (.int .i64 (K t)))) (i j : Nat) (hi : i < n) (hj : j < n) (_hn : n < 4611686018427387904) :
    Calls Tryz.prog 37 #[.int .i64 i, .int .i64 j, .pointer (some ⟨Bs, 0, none⟩)] W fun e w' => e = .returned (.bool (decide (K i < K j))) ∧ ∃ q, w' = W.drewN q := by
  have pi := hp i hi
  have pj := hp j hj
  have ki := hk i hi
  have kj := hk j hj
  have hi1 : (i : Int) < (n : Int) := by omega
  have hj1 : (j : Int) < (n : Int) := by omega
  clear hp hk
  go_enter Tryz.func37, Tryz.ntmps37
  go_wp2_with fail
  go_quiet ((go_at_call 34; exact Calls.quiet_of_same ((compareInt_any (K i) (K j) _).mono fun _ _ h => ⟨h.1, h.2.symm⟩)))
  go_wp2
  go_ret
  exact ⟨by rw [← cmpI_neg (a := K i) (b := K j)]; rfl, nq, rfl⟩
/-! ### sort.SliceStable over the items -/
noncomputable def itemsT : TypeInfo := (Tryz.prog.info? 43).get (by kernel_rfl)
noncomputable def itemT : TypeInfo := (Tryz.prog.info? 46).get (by kernel_rfl)
theorem swapK (n : Nat) (h2 : 2 ≤ n) : Lib.swapperK n itemT 22 = 3 := by
  have a : itemT.hasPointers = true := by kernel_rfl
  have b : itemT.bytes = 8 := by kernel_rfl
  have c : (n == 0) = false := by simp; omega
  have d : (n == 1) = false := by simp; omega
  simp [Lib.swapperK, a, b, c, d]
theorem range_at (n : Nat) : ∀ t, t < (Array.range n).size → (Array.range n)[t]! = t := fun t ht => by
  rw [getElem!_pos (Array.range n) t ht]
  simp

theorem sort_world (enc : Nat → Value) (w : World) (blk off m : Nat) (dk : Array Nat) (os : Array Obj) (hblk : blk < w.heap.size) :
    sortWorld enc w blk off m dk os = putRow enc (grow (Sort.ahead w m) os) blk off dk := by
  unfold Go.Proofs.sortWorld
  rw [putRow_grow enc (Sort.ahead w m) _ blk off _ hblk]

/-- What sort.SliceStable leaves of the items' row. -/
def Ordered (enc : Nat → Value) (K : Nat → Int) (n blk : Nat) (w : World) (e : Ending) (w' : World) : Prop :=
  e = .returned (.tuple #[]) ∧ ∃ (d' : Array Nat) (m : Nat) (os : Array Obj), SortedIn (tlK K) 0 n d' ∧ PermIn 0 n (Array.range n) d' ∧ w' = grow (putRow enc (Sort.ahead w m) blk 0 d') os

theorem sortCall_many (Bs blk B n : Nat) (vs ks : List Int) (w : World) (h2 : 2 ≤ n) (hsz : n < 4611686018427387904) (hkl : ks.length = n) (hbox : w.cell? ⟨Bs, 0, none⟩ = some (.slice (some ⟨blk, 0, none⟩) n n))
    (hne : Bs ≠ blk) (hBs : Bs < w.heap.size) (hblk : blk < w.heap.size) (hB : blk < B) (hBn : B + n ≤ w.heap.size) (hI : Items w B vs ks n) (hH : Go.Sort.Holds (itemP B n) w blk 0 (Array.range n)) :
    Calls Tryz.prog 36 #[.iface 43 (.slice (some ⟨blk, 0, none⟩) n n), .func (.func 37) #[] #[.pointer (some ⟨Bs, 0, none⟩)]] w (Ordered (itemP B n) (keyF ks) n blk w) := by
  have hn : (Array.range n).size = n := Array.size_range
  have hless : LessReads Tryz.prog 37 #[.pointer (some ⟨Bs, 0, none⟩)] (itemP B n) (ltK (keyF ks)) blk 0 (Array.range n).size w := by
    intro m os dk hs i j hi hj
    rw [hn] at hs hi hj
    have hHg : Go.Sort.Holds (itemP B n) (grow (Sort.ahead w m) os) blk 0 (Array.range n) := holds_grow _ _ _ blk 0 _ hblk (holds_ahead _ _ _ _ _ _ hH)
    have old : ∀ p : Addr, p.block ≠ blk → p.block < w.heap.size → (sortWorld (itemP B n) w blk 0 m dk os).cell? p = w.cell? p := fun p h1 h3 => by
      rw [sort_world _ _ _ _ _ _ _ hblk, cell?_putRow_other _ _ _ _ _ _ (.inl h1), cell?_grow _ _ _ (by exact h3)]
      rfl
    refine less_any Bs blk n n (fun t => B + min dk[t]! (n - 1)) (fun t => keyF ks dk[t]!) _ ?_ (fun t ht => ?_) (fun t ht => ?_) i j hi hj hsz
    · rw [old _ hne hBs]; exact hbox
    · have := cell?_putRow (itemP B n) _ blk 0 _ dk hHg (hs.trans hn.symm) t (by omega)
      rw [Nat.zero_add] at this
      rw [sort_world _ _ _ _ _ _ _ hblk]
      exact this
    · rw [old _ (by show B + min dk[t]! (n - 1) ≠ blk; omega) (by show B + min dk[t]! (n - 1) < w.heap.size; omega)]
      have := (hI (min dk[t]! (n - 1)) (by omega)).2
      rw [this]
      unfold keyF
      rw [hkl]
  have hS := sliceStable_w sl8 43 46 itemsT itemT (by kernel_rfl) (by kernel_rfl) (by kernel_rfl) (by kernel_rfl) 22 (fun _ => by kernel_rfl) (by kernel_rfl) (fun _ => by kernel_rfl) (itemP B n) (fun _ => rfl) (keyF ks) 37 _
    (enters_of Tryz.func37 (by kernel_rfl) rfl) blk 0 n (Array.range n) (by omega) (by omega) (range_at n) 64 (by rw [swapK _ (by omega)]; kernel_rfl) true
    (fun args W => run_callFunc_extern Tryz.func64 (by kernel_rfl) (by kernel_rfl) (by kernel_rfl) (e := Extern.ReflectliteSwapper.swap true) (by kernel_rfl) args W) w hless hH hblk
  rw [hn] at hS
  exact hS

theorem sortCall_few (Bs blk B n : Nat) (ks : List Int) (w : World) (h2 : n ≤ 1) (hH : Go.Sort.Holds (itemP B n) w blk 0 (Array.range n)) :
    Calls Tryz.prog 36 #[.iface 43 (.slice (some ⟨blk, 0, none⟩) n n), .func (.func 37) #[] #[.pointer (some ⟨Bs, 0, none⟩)]] w (Ordered (itemP B n) (keyF ks) n blk w) := by
  have done : ∀ e w', (e = Ending.returned (.tuple #[]) ∧ ∃ os, w' = grow w os) → Ordered (itemP B n) (keyF ks) n blk w e w' := fun e w' ⟨he, os, hw⟩ =>
    ⟨he, Array.range n, 0, os, fun i j _ _ _ => by omega, permIn_refl _ _ _, by rw [ahead_zero, putRow_self _ _ _ _ _ hH]; exact hw⟩
  rcases (show n = 0 ∨ n = 1 by omega) with rfl | rfl
  · exact (Any.sort_SliceStable_tiny sl8 43 46 itemsT itemT (by kernel_rfl) (by kernel_rfl) (by kernel_rfl) (by kernel_rfl) 22 (fun _ => by kernel_rfl) (some ⟨blk, 0, none⟩) 0 0 (by omega) 62 (by kernel_rfl) (.func 37) #[] _ w).mono done
  · exact (Any.sort_SliceStable_tiny sl8 43 46 itemsT itemT (by kernel_rfl) (by kernel_rfl) (by kernel_rfl) (by kernel_rfl) 22 (fun _ => by kernel_rfl) (some ⟨blk, 0, none⟩) 1 1 (by omega) 63 (by kernel_rfl) (.func 37) #[] _ w).mono done

theorem sortCall_any (Bs blk B n : Nat) (vs ks : List Int) (w : World) (hsz : n < 4611686018427387904) (hkl : ks.length = n) (hbox : w.cell? ⟨Bs, 0, none⟩ = some (.slice (some ⟨blk, 0, none⟩) n n))
    (hne : Bs ≠ blk) (hBs : Bs < w.heap.size) (hblk : blk < w.heap.size) (hB : blk < B) (hBn : B + n ≤ w.heap.size) (hI : Items w B vs ks n) (hH : Go.Sort.Holds (itemP B n) w blk 0 (Array.range n)) :
    Calls Tryz.prog 36 #[.iface 43 (.slice (some ⟨blk, 0, none⟩) n n), .func (.func 37) #[] #[.pointer (some ⟨Bs, 0, none⟩)]] w (Ordered (itemP B n) (keyF ks) n blk w) := by
  by_cases h : n ≤ 1
  · exact sortCall_few Bs blk B n ks w h hH
  · exact sortCall_many Bs blk B n vs ks w (by omega) hsz hkl hbox hne hBs hblk hB hBn hI hH
end Go.Proofs.YtheochfpidahmaaGreatDoor
