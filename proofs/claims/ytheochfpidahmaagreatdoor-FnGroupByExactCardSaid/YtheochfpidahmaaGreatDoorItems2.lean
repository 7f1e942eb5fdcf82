/-
  sortItems at two rows of ints of one length: its walk (folder n001_68).
-/
import Derived.Test.YtheochfpidahmaaGreatDoorItems
namespace Go.Proofs.YtheochfpidahmaaGreatDoor
open Go Go.RowKit Go.Shelf Go.Lib Go.Sort Go.Proofs

def ptrs (B n : Nat) : List Value := (List.range n).map (itemP B n)
theorem ptrs_get {B n k : Nat} (h : k < n) : (ptrs B n)[k]? = some (.pointer (some ⟨B + k, 0, none⟩)) := by
  simp [ptrs, h, itemP_at h]
theorem ptrs_len (B n : Nat) : (ptrs B n).length = n := by simp [ptrs]
/-- An item's two cells. -/
def itemC (vs ks : List Int) (k : Nat) : Array Value := #[.iface 3 (.int .i64 (vs.getD k 0)), .iface 3 (.int .i64 (ks.getD k 0))]

theorem items_step {wr : World} {B g k : Nat} {vs ks : List Int} {t : TypeId} {u : Value} (h : Items wr B vs ks k) (hsz : wr.heap.size = B + k) (hg : g < B) :
    Items ((wr.alloc (.cells (itemC vs ks k) t)).setCell ⟨g, k, none⟩ u) B vs ks (k + 1) := by
  have old : ∀ p : Addr, p.block ≠ g → ((wr.alloc (.cells (itemC vs ks k) t)).setCell ⟨g, k, none⟩ u).cell? p = (wr.alloc (.cells (itemC vs ks k) t)).cell? p := fun p hp => by
    rw [setCell_eq, cell?_mapBlock_other _ _ _ _ hp]
  intro j hj
  rw [old _ (by show B + j ≠ g; omega), old _ (by show B + j ≠ g; omega)]
  by_cases e : j = k
  · subst e
    have := cells_new wr (itemC vs ks j).toList t
    have h0 := this 0 _ rfl
    have h1 := this 1 _ rfl
    rw [Addr.add_lit, hsz, Nat.zero_add] at h0 h1
    exact ⟨h0, h1⟩
  · rw [alloc_eq_grow, cell?_grow _ _ _ (by show B + j < wr.heap.size; omega), cell?_grow _ _ _ (by show B + j < wr.heap.size; omega)]
    exact h j (by omega)

/-- sortItems' answer: pointers to the items, in order; no error. -/
def SortedItems (vs ks : List Int) (n : Nat) (w : World) (e : Ending) (w' : World) : Prop :=
  ∃ (blk B : Nat) (d' : Array Nat), e = .returned (.tuple #[.slice (some ⟨blk, 0, none⟩) n n, .nilIface]) ∧ Below w.heap.size w w' ∧ SortedIn (tlK (keyF ks)) 0 n d' ∧ PermIn 0 n (Array.range n) d' ∧
    (∀ t, t < n → w'.cell? ⟨blk, t, none⟩ = some (.pointer (some ⟨B + d'[t]!, 0, none⟩))) ∧ Items w' B vs ks n ∧ w.heap.size ≤ blk ∧ blk < w'.heap.size ∧ w.heap.size ≤ B ∧ B + n ≤ w'.heap.size

theorem perm_lt {n : Nat} {d' : Array Nat} (h : PermIn 0 n (Array.range n) d') : ∀ t, t < n → d'[t]! < n := fun t ht =>
  permIn_all (Array.range n) d' 0 n (· < n) (by simp) h (fun i _ hi => by rw [range_at n i (by simpa using hi)]; exact hi) t (Nat.zero_le _) ht

set_option maxRecDepth 100000 in
set_option maxHeartbeats 3200000 in
theorem sortItems_any (s : ByteArray) (a1 a2 : Option Addr) (c1 c2 n : Nat) (vs ks : List Int) (w : World) (hv : vs.length = n) (hk : ks.length = n) (hl : n ≤ 1048576) (r1 : Row w a1 (anyI vs)) (r2 : Row w a2 (anyI ks)) :
    Calls Tryz.prog 33 #[.string s, .iface 25 (.slice a1 n c1), .iface 25 (.slice a2 n c2)] w (SortedItems vs ks n w) := by
  obtain ⟨i0, hi, hz0, hz1, hz2⟩ := info_parts Tryz.infoItemP
  have h1 := fun (v : Value) (w : World) => a_arr v w
  have mkI := fun (x : Value) (w : World) => run_makeInterface (P := Tryz.prog) w 43 x (by kernel_rfl)
  have HV : Hid (vs.length = n) := hv
  have HK : Hid (ks.length = n) := hk
  clear hv hk
  go_enter Tryz.func33, Tryz.ntmps33
  go_wp2_with (at_make; refine wpList_make_full _ rfl _ _ 43 rfl w.heap.size 46 i0 (.pointer none) 1 Tryz.underlying43 hi hz0 hz1 _ _ _ _ n rfl rfl rfl rfl ?c1 ?c2 ?c3 ?_)
  case c1 => rw [hz2]; omega
  case c2 => unfold maxLen; omega
  case c3 => omega
  intro w1 hown hgrow
  have hb : Below w.heap.size w w1 := (Below.refl _ _).grown hgrow (Nat.le_refl _) (by intro k hk; cases hk)
  have hlt0 : w.heap.size < w1.heap.size := (hown.lt w.heap.size rfl).2
  have hown' : w1.ownsRow w.heap.size 46 1 (.slice (some ⟨w.heap.size, 0, none⟩) n n) n (filled (ptrs (w1.heap.size + 1) n) (.pointer none) 0) := by
    rw [filled_zero, ptrs_len]
    simpa [Value.cells, toList_madeCells_one] using hown
  clear hown hgrow
  go_wp2
  obtain ⟨H0, hH0⟩ : ∃ H0, w1.heap.size = H0 := ⟨_, rfl⟩
  rw [hH0] at hlt0 hown'
  have hbox : (w1.alloc (.cells #[.slice (some ⟨w.heap.size, 0, none⟩) n n] 43)).cell? ⟨H0, 0, none⟩ = some (.slice (some ⟨w.heap.size, 0, none⟩) n n) := by rw [← hH0]; simp
  have hb2 : Below w.heap.size w (w1.alloc (.cells #[.slice (some ⟨w.heap.size, 0, none⟩) n n] 43)) := hb.alloc (by omega) _
  have hsz2 : (w1.alloc (.cells #[.slice (some ⟨w.heap.size, 0, none⟩) n n] 43)).heap.size = H0 + 1 := by rw [← hH0]; simp
  have hown2 := hown'.alloc (.cells #[.slice (some ⟨w.heap.size, 0, none⟩) n n] 43)
  rw [hH0]
  generalize w1.alloc (.cells #[.slice (some ⟨w.heap.size, 0, none⟩) n n] 43) = w2 at hbox hb2 hsz2 hown2 ⊢
  clear hb hown' hH0
  go_loopw [66] (fun i wr => ∃ k : Nat, i = .int .i64 k ∧ k ≤ n ∧ wr.heap.size = H0 + 1 + k ∧ wr.ownsRow w.heap.size 46 1 (.slice (some ⟨w.heap.size, 0, none⟩) n n) n (filled (ptrs (H0 + 1) n) (.pointer none) k) ∧ Below w.heap.size w wr ∧
      wr.cell? ⟨H0, 0, none⟩ = some (.slice (some ⟨w.heap.size, 0, none⟩) n n) ∧ Hid (Items wr (H0 + 1) vs ks k))
    (fun i _ => n - (intOf i).toNat)
  case atStart => exact ⟨0, rfl, by omega, hsz2, hown2, hb2, hbox, fun j h => by omega⟩
  case round =>
    clear hown2 hb2 hsz2 hbox
    obtain ⟨k, rfl, hkn, hsz, hown, hb, hbox, HI⟩ := hrel
    by_cases hlt : k < n
    · obtain ⟨x1, o1, rfl, hx1, g1⟩ := r1.at (k := k) (by rw [anyI_len, HV.out]; exact hlt)
      obtain ⟨x2, o2, rfl, hx2, g2⟩ := r2.at (k := k) (by rw [anyI_len, HK.out]; exact hlt)
      have q1 : wr.cell? ⟨x1, o1 + k, none⟩ = some (.iface 3 (.int .i64 (vs.getD k 0))) := by
        rw [(hb.cell (p := ⟨x1, o1 + k, none⟩) hx1)]
        exact g1 k _ (by rw [anyI_get vs (by rw [HV.out]; exact hlt)]; simp [List.getD, show k < vs.length by rw [HV.out]; exact hlt])
      have q2 : wr.cell? ⟨x2, o2 + k, none⟩ = some (.iface 3 (.int .i64 (ks.getD k 0))) := by
        rw [(hb.cell (p := ⟨x2, o2 + k, none⟩) hx2)]
        exact g2 k _ (by rw [anyI_get ks (by rw [HK.out]; exact hlt)]; simp [List.getD, show k < ks.length by rw [HK.out]; exact hlt])
      have q3 : wr.cell? ⟨w.heap.size, k, none⟩ = some (.pointer none) := by rw [hown.cellAt k (by omega)]; exact filled_at _ _ _ (by rw [ptrs_len]; exact hlt)
      have q4 := hown.frozenAt k
      have hkI : (k : Int) < (n : Int) := by omega
      obtain ⟨xv, hxv⟩ : ∃ xv, vs.getD k 0 = xv := ⟨_, rfl⟩
      obtain ⟨kv, hkv⟩ : ∃ kv, ks.getD k 0 = kv := ⟨_, rfl⟩
      have hI2 := items_step (t := 49) (u := .pointer (some ⟨H0 + 1 + k, 0, none⟩)) HI.out (by omega) (show w.heap.size < H0 + 1 by omega)
      have e1 : itemC vs ks k = #[.iface 3 (.int .i64 xv), .iface 3 (.int .i64 kv)] := by rw [← hxv, ← hkv]; rfl
      rw [e1] at hI2
      rw [hxv] at q1
      rw [hkv] at q2
      have hownA := hown.alloc (.cells #[.iface 3 (.int .i64 xv), .iface 3 (.int .i64 kv)] 49)
      have hbA := hb.alloc (by omega) (.cells #[.iface 3 (.int .i64 xv), .iface 3 (.int .i64 kv)] 49)
      have q5 : (wr.alloc (.cells #[.iface 3 (.int .i64 xv), .iface 3 (.int .i64 kv)] 49)).cell? ⟨w.heap.size, k, none⟩ = some (.pointer none) := by rw [hownA.cellAt k (by omega)]; exact filled_at _ _ _ (by rw [ptrs_len]; exact hlt)
      have q6 := hownA.frozenAt k
      have q7 : (wr.alloc (.cells #[.iface 3 (.int .i64 xv), .iface 3 (.int .i64 kv)] 49)).cell? ⟨H0, 0, none⟩ = some (.slice (some ⟨w.heap.size, 0, none⟩) n n) := by
        rw [alloc_eq_grow, cell?_grow _ _ _ (by show H0 < wr.heap.size; omega)]; exact hbox
      obtain ⟨R1, R2⟩ := fill_step hownA hbA (ptrs_get (B := H0 + 1) hlt)
      have R3 : ((wr.alloc (.cells #[.iface 3 (.int .i64 xv), .iface 3 (.int .i64 kv)] 49)).setCell ⟨w.heap.size, k, none⟩ (.pointer (some ⟨H0 + 1 + k, 0, none⟩))).cell? ⟨H0, 0, none⟩ = some (.slice (some ⟨w.heap.size, 0, none⟩) n n) := by
        rw [setCell_eq, cell?_mapBlock_other _ _ _ _ (by show H0 ≠ w.heap.size; omega)]; exact q7
      have R4 : ((wr.alloc (.cells #[.iface 3 (.int .i64 xv), .iface 3 (.int .i64 kv)] 49)).setCell ⟨w.heap.size, k, none⟩ (.pointer (some ⟨H0 + 1 + k, 0, none⟩))).heap.size = H0 + 1 + (k + 1) := by
        rw [setCell_eq]; simp [mapBlock, hsz]; omega
      have HR : Hid (∀ q, ∃ k' : Nat, Value.int .i64 ((k : Int) + 1) = .int .i64 k' ∧ k' ≤ n ∧ (((wr.alloc (.cells #[.iface 3 (.int .i64 xv), .iface 3 (.int .i64 kv)] 49)).setCell ⟨w.heap.size, k, none⟩ (.pointer (some ⟨H0 + 1 + k, 0, none⟩))).drewN q).heap.size = H0 + 1 + k' ∧ (((wr.alloc (.cells #[.iface 3 (.int .i64 xv), .iface 3 (.int .i64 kv)] 49)).setCell ⟨w.heap.size, k, none⟩ (.pointer (some ⟨H0 + 1 + k, 0, none⟩))).drewN q).ownsRow w.heap.size 46 1 (.slice (some ⟨w.heap.size, 0, none⟩) n n) n (filled (ptrs (H0 + 1) n) (.pointer none) k') ∧ Below w.heap.size w (((wr.alloc (.cells #[.iface 3 (.int .i64 xv), .iface 3 (.int .i64 kv)] 49)).setCell ⟨w.heap.size, k, none⟩ (.pointer (some ⟨H0 + 1 + k, 0, none⟩))).drewN q) ∧
          (((wr.alloc (.cells #[.iface 3 (.int .i64 xv), .iface 3 (.int .i64 kv)] 49)).setCell ⟨w.heap.size, k, none⟩ (.pointer (some ⟨H0 + 1 + k, 0, none⟩))).drewN q).cell? ⟨H0, 0, none⟩ = some (.slice (some ⟨w.heap.size, 0, none⟩) n n) ∧ Hid (Items (((wr.alloc (.cells #[.iface 3 (.int .i64 xv), .iface 3 (.int .i64 kv)] 49)).setCell ⟨w.heap.size, k, none⟩ (.pointer (some ⟨H0 + 1 + k, 0, none⟩))).drewN q) (H0 + 1) vs ks k')) :=
        fun q => ⟨k + 1, by congr 1, by omega, R4, R1, ⟨R2.os, R2.tape, R2.output, R2.size, R2.block⟩, R3, hI2⟩
      clear g1 g2 hI2 hownA hbA R1 R2 R3 R4 HI hown hb q3 q4 e1
      go_wp2_with fail
      go_region
      all_goals
        go_wp2
        go_roundw
      case rel => exact HR.out 1
      case measure => simp [intOf]; omega
    · obtain rfl : k = n := by omega
      clear r1 r2
      have e := filled_all (ptrs (H0 + 1) k) (.pointer none)
      rw [ptrs_len] at e
      rw [e] at hown
      have hH : Go.Sort.Holds (itemP (H0 + 1) k) wr w.heap.size 0 (Array.range k) := fun j hj => by
        have hj' : j < k := by simpa using hj
        rw [Nat.zero_add, range_at k j hj, itemP_at hj']
        exact ⟨by rw [hown.cellAt j (by omega)]; exact ptrs_get hj', hown.frozenAt j⟩
      have hblt := hown.lt w.heap.size rfl
      have HC : Hid (Calls Tryz.prog 36 _ wr _) := sortCall_any H0 w.heap.size (H0 + 1) k vs ks wr (by omega) HK.out hbox (by omega) (by omega) hblt.2 (by omega) (by omega) HI.out hH
      have hb3 : ∀ (d' : Array Nat) (m : Nat) (os : Array Obj), Below w.heap.size w (grow (putRow (itemP (H0 + 1) k) (Sort.ahead wr m) w.heap.size 0 d') os) := fun d' m os =>
        hb.trans ⟨rfl, rfl, rfl, by rw [size_grow, Go.Sort.size_putRow]; exact Nat.le_add_right _ _, fun i hi => by
          rw [heap_grow_old _ _ (by rw [Go.Sort.size_putRow]; show i < wr.heap.size; omega)]
          show ((Sort.ahead wr m).heap.modify w.heap.size _)[i]? = _
          rw [Array.getElem?_modify, if_neg (by omega)]
          rfl⟩
      have old : ∀ (d' : Array Nat) (m : Nat) (os : Array Obj) (p : Addr), p.block ≠ w.heap.size → p.block < wr.heap.size → (grow (putRow (itemP (H0 + 1) k) (Sort.ahead wr m) w.heap.size 0 d') os).cell? p = wr.cell? p := fun d' m os p h1 h2 => by
        rw [cell?_grow _ _ _ (by rw [Go.Sort.size_putRow]; exact h2), cell?_putRow_other _ _ _ _ _ _ (.inl h1)]
        rfl
      have own : ∀ (d' : Array Nat) (m : Nat) (os : Array Obj), PermIn 0 k (Array.range k) d' → ∀ t, t < k → (grow (putRow (itemP (H0 + 1) k) (Sort.ahead wr m) w.heap.size 0 d') os).cell? ⟨w.heap.size, t, none⟩ = some (.pointer (some ⟨H0 + 1 + d'[t]!, 0, none⟩)) := fun d' m os hP t ht => by
        rw [cell?_grow _ _ _ (by rw [Go.Sort.size_putRow]; exact hblt.2)]
        have := cell?_putRow (itemP (H0 + 1) k) (Sort.ahead wr m) w.heap.size 0 _ d' hH hP.1 t (by rw [hP.1]; simpa using ht)
        rw [Nat.zero_add, itemP_at (perm_lt hP t ht)] at this
        exact this
      have HC2 : Hid (Calls Tryz.prog 36 _ wr fun e w3 => e = .returned (.tuple #[]) ∧ w3.cell? ⟨H0, 0, none⟩ = some (.slice (some ⟨w.heap.size, 0, none⟩) k k) ∧ Hid (∃ (d' : Array Nat) (m : Nat) (os : Array Obj), SortedIn (tlK (keyF ks)) 0 k d' ∧ PermIn 0 k (Array.range k) d' ∧ w3 = grow (putRow (itemP (H0 + 1) k) (Sort.ahead wr m) w.heap.size 0 d') os)) :=
        HC.out.mono fun e w3 ⟨he, d', m, os, hs, hp, hw3⟩ => ⟨he, by rw [hw3, old d' m os ⟨H0, 0, none⟩ (by show H0 ≠ w.heap.size; omega) (by show H0 < wr.heap.size; omega)]; exact hbox, d', m, os, hs, hp, hw3⟩
      have HB3 : Hid _ := hb3
      have OLD : Hid _ := old
      have OWN : Hid _ := own
      clear hb3 old own hown hH e HC
      go_wp2_with (go_at_call 36; refine HC2.out.mono ?_; rintro e w3 ⟨rfl, hbox3, HS⟩)
      go_ret2
      obtain ⟨d', m, os, hs, hp, hw3⟩ := HS.out
      have hsz3 : wr.heap.size ≤ w3.heap.size := by rw [hw3, size_grow, Go.Sort.size_putRow]; exact Nat.le_add_right _ _
      refine ⟨w.heap.size, H0 + 1, d', rfl, by rw [hw3]; exact HB3.out d' m os, hs, hp, by rw [hw3]; exact OWN.out d' m os hp, fun j hj => ?_, Nat.le_refl _, by omega, by omega, by omega⟩
      rw [hw3, OLD.out d' m os ⟨H0 + 1 + j, 0, none⟩ (by show H0 + 1 + j ≠ w.heap.size; omega) (by show H0 + 1 + j < wr.heap.size; omega), OLD.out d' m os ⟨H0 + 1 + j, 1, none⟩ (by show H0 + 1 + j ≠ w.heap.size; omega) (by show H0 + 1 + j < wr.heap.size; omega)]
      exact HI.out j hj
end Go.Proofs.YtheochfpidahmaaGreatDoor
