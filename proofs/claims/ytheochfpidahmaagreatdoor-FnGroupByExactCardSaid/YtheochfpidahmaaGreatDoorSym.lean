/-
  sort's symMerge_func by its contract, over any program that has the library's text.
-/
import Derived.Test.YtheochfpidahmaaGreatDoorSw
import Derived.Deep.DeepCutAuto
import Derived.Deep.CutRange
namespace Go.Proofs.YtheochfpidahmaaGreatDoor
open Go Go.Shelf Go.RowKit Go.Lib Go.Sort Go.Proofs
variable {P : Program} {ρ : Ren}

/-- Where a function of the family stands: the row holds d; what lay elsewhere lies there still; 'data' lies in its own block. -/
structure Now (enc : Nat → Value) (w0 : World) (blk off : Nat) (W : World) (g : Nat) (lb : Array Value) (sf : Nat) (sb : Array Value) (d : Array Nat) (wx : World) : Prop where
  sw : SW enc w0 blk off d wx
  kept : Kept blk W wx
  c0 : wx.cell? ⟨W.heap.size, 0, none⟩ = some (.func (.func g) #[] lb)
  c1 : wx.cell? ⟨W.heap.size, 1, none⟩ = some (.func (.func sf) #[] sb)
section
variable {enc : Nat → Value} {w0 : World} {blk off : Nat} {W : World} {g : Nat} {lb : Array Value} {sf : Nat} {sb : Array Value} {d d2 : Array Nat} {wx w2 : World}
theorem Now.next (h : Now enc w0 blk off W g lb sf sb d wx) (hlt : blk < W.heap.size) (hS : SW enc w0 blk off d2 w2) (hK : Kept blk wx w2) : Now enc w0 blk off W g lb sf sb d2 w2 := by
  have h0 : W.heap.size < wx.heap.size := World.block_lt_of_cell? wx _ h.c0
  exact ⟨hS, h.kept.trans hK, (hK.2 ⟨W.heap.size, 0, none⟩ h0 (by show W.heap.size ≠ blk; omega)).trans h.c0, (hK.2 ⟨W.heap.size, 1, none⟩ h0 (by show W.heap.size ≠ blk; omega)).trans h.c1⟩
theorem Now.drew (h : Now enc w0 blk off W g lb sf sb d wx) (q : Nat) : Now enc w0 blk off W g lb sf sb d (wx.drewN q) := ⟨h.sw.drewN q, h.kept.drewN q, h.c0, h.c1⟩
theorem Now.swapped (h : Now enc w0 blk off W g lb sf sb d wx) (hb0 : blk < w0.heap.size) (hlt : blk < W.heap.size) (i j : Nat) (hi : i < d.size) (hj : j < d.size) :
    Now enc w0 blk off W g lb sf sb (swp d i j) ((wx.setCell ⟨blk, off + i, none⟩ (enc d[j]!)).setCell ⟨blk, off + j, none⟩ (enc d[i]!)) :=
  h.next hlt (h.sw.swap hb0 i j hi hj) ((Kept.refl blk wx).swap _ _ _ _)
theorem Now.start (hS : SW enc w0 blk off d W) (t : TypeId) : Now enc w0 blk off W g lb sf sb d (W.alloc (.cells #[.func (.func g) #[] lb, .func (.func sf) #[] sb] t)) :=
  ⟨hS.alloc _, (Kept.refl blk W).alloc _, by simp, by simp⟩
end

set_option maxHeartbeats 4000000 in
set_option maxRecDepth 100000 in
theorem symMerge_left (L : LaysGt.n30 P ρ) {enc : Nat → Value} {K : Nat → Int} {g : Nat} {lb : Array Value} {sf : Nat} {sb : Array Value} {w0 : World} {blk off : Nat} {d0 : Array Nat} (E : Env P enc w0 blk off d0 sf sb)
    (eg : ∀ args w, (callFunc g args).run P w = .ok (.enter g args) w) (hless : LessReads P g lb enc (ltK K) blk off d0.size w0)
    (d : Array Nat) (hd : d.size = d0.size) (W : World) (hS : SW enc w0 blk off d W) (a b : Nat) (hb : b ≤ d.size) (hab : a + 1 ≤ b) (hs2 : SortedIn (tlK K) (a + 1) b d) (hA : Ahead a (a + 1) b d) :
    Calls P (ρ.f 30) #[.agg #[.func (.func g) #[] lb, .func (.func sf) #[] sb], .int .i64 a, .int .i64 ((a : Int) + 1), .int .i64 b] W
      (Leaves enc w0 blk off W fun d' => d'.size = d.size ∧ SortedIn (tlK K) a b d' ∧ PermAll a b d d') := by
  have mixed := L.mixed; have t0 := L.t0; have a0 := L.a0; have z0 := L.z0; have v0 := L.v0; have t3 := L.t3; have a3 := L.a3; have z3 := L.z3; have v3 := L.v3; have t4 := L.t4; have a4 := L.a4; have z4 := L.z4; have v4 := L.v4; have t26 := L.t26; have a26 := L.a26; have z26 := L.z26; have v26 := L.v26; have t38 := L.t38; have a38 := L.a38; have z38 := L.z38; have v38 := L.v38; have t42 := L.t42; have a42 := L.a42; have z42 := L.z42; have v42 := L.v42; have t47 := L.t47; have a47 := L.a47; have z47 := L.z47; have v47 := L.v47
  have u42 := run_underlying L.t42
  have hsz := E.small
  have hltW := hS.lt E.lt
  have h1 : ((a : Int) + 1 - (a : Int) == 1) = true := beq_iff_eq.2 (by omega)
  go_enter L.f30, BodyGt.n30_ntmps ρ
  go_wp2
  go_loopw [8, 9] (fun vi vj wr => ∃ (i j : Nat), vi = .int .i64 i ∧ vj = .int .i64 j ∧ a + 1 ≤ i ∧ i ≤ j ∧ j ≤ b ∧ Hid (i = a + 1 ∨ ltK K d[i - 1]! d[a]! = true) ∧ Hid (j = b ∨ ltK K d[j]! d[a]! = false) ∧ Now enc w0 blk off W g lb sf sb d wr)
    (fun vi vj _ => (intOf vj).toNat - (intOf vi).toNat)
  case atStart => exact ⟨a + 1, b, by congr 1, rfl, by omega, by omega, by omega, .inl rfl, .inl rfl, Now.start hS _⟩
  case round =>
    obtain ⟨i, j, rfl, rfl, hai, hij, hjb, HL, HR, hN⟩ := hrel
    by_cases hlt : i < j
    · have hl := hN.sw.less hless hd ((i + j) / 2) a (by omega) (by omega)
      rw [show (((i + j) / 2 : Nat) : Int) = ((i : Int) + (j : Int)) / 2 by omega] at hl
      have hc0 := hN.c0
      cases hv : ltK K d[(i + j) / 2]! d[a]! with
      | true =>
        rw [hv] at hl
        have HL2 : Hid ((i + j) / 2 + 1 = a + 1 ∨ ltK K d[(i + j) / 2 + 1 - 1]! d[a]! = true) := .inr hv
        clear HL hv
        go_wp2_with (go_at_fn g; refine hl.mono ?_; rintro e w' ⟨rfl, q, rfl⟩)
        go_roundw
        case rel => exact ⟨(i + j) / 2 + 1, j, by congr 1, rfl, by omega, by omega, hjb, HL2, HR, hN.drew q⟩
        case measure => simp [intOf]; omega
      | false =>
        rw [hv] at hl
        have HR2 : Hid ((i + j) / 2 = b ∨ ltK K d[(i + j) / 2]! d[a]! = false) := .inr hv
        clear HR hv
        go_wp2_with (go_at_fn g; refine hl.mono ?_; rintro e w' ⟨rfl, q, rfl⟩)
        go_roundw
        case rel => exact ⟨i, (i + j) / 2, rfl, by congr 1, hai, by omega, by omega, HL, HR2, hN.drew q⟩
        case measure => simp [intOf]; omega
    · obtain rfl : i = j := by omega
      go_wp2
      go_loopw [11] (fun vk wr => ∃ (k : Nat) (dk : Array Nat), vk = .int .i64 k ∧ a ≤ k ∧ k + 1 ≤ i ∧ dk.size = d.size ∧ Hid (∀ t, dk[t]! = rotAt d a (a + 1) (k + 1) t) ∧ Hid (PermAll a b d dk) ∧ Now enc w0 blk off W g lb sf sb dk wr)
        (fun vk _ => i - (intOf vk).toNat)
      case atStart => exact ⟨a, d, rfl, by omega, by omega, rfl, fun t => (rot_none2 d a (a + 1) t).symm, PermAll.refl a b d, hN⟩
      case round =>
        clear hN
        obtain ⟨k, dk, rfl, hak, hki, hsk, HA, HP, hN⟩ := hrel
        by_cases hlt2 : k + 1 < i
        · have hs := E.swap wr dk (hN.sw.holds E.lt E.holds (hsk.trans hd)) (hsk.trans hd) (k) (k + 1) (by omega) (by omega)
          have hN2 : Now enc w0 blk off W g lb sf sb (swp dk (k) (k + 1)) _ := hN.swapped E.lt hltW (k) (k + 1) (by omega) (by omega)
          have HA2 : Hid (∀ t, (swp dk (k) (k + 1))[t]! = rotAt d a (a + 1) (k + 2) t) := fun t => wander_right d dk a k hak HA.out (by omega) t
          have HP2 : Hid (PermAll a b d (swp dk (k) (k + 1))) := HP.out.swp hsk _ _ (by omega) (by omega) (by omega) (by omega)
          have hs2' : (swp dk (k) (k + 1)).size = d.size := by rw [size_swp]; exact hsk
          rw [show ((k + 1 : Nat) : Int) = (k : Int) + 1 by omega] at hs
          generalize (wr.setCell ⟨blk, off + (k), none⟩ (enc dk[k + 1]!)).setCell ⟨blk, off + (k + 1), none⟩ (enc dk[k]!) = w2 at hs hN2
          generalize swp dk (k) (k + 1) = d2 at hN2 HA2 HP2 hs2'
          have hc0 := hN.c0
          have hc1 := hN.c1
          clear hN HA HP
          go_wp2
          go_roundw
          case rel => exact ⟨k + 1, d2, by go_num, by omega, by omega, hs2', HA2, HP2, hN2⟩
          case measure => simp [intOf]; omega
        · obtain rfl : i = k + 1 := by omega
          go_wp2
          ((try simp only [Exit.inBlock, Exit.then]); refine bodyPost_ret (results_none rfl _ _ _) rfl ?_)
          exact ⟨rfl, dk, ⟨hsk, merge_one_left hs2 hA hai hjb HL.out HR.out HA.out, HP.out⟩, hN.sw, hN.kept⟩
set_option maxHeartbeats 4000000 in
set_option maxRecDepth 100000 in
theorem symMerge_right (L : LaysGt.n30 P ρ) {enc : Nat → Value} {K : Nat → Int} {g : Nat} {lb : Array Value} {sf : Nat} {sb : Array Value} {w0 : World} {blk off : Nat} {d0 : Array Nat} (E : Env P enc w0 blk off d0 sf sb)
    (eg : ∀ args w, (callFunc g args).run P w = .ok (.enter g args) w) (hless : LessReads P g lb enc (ltK K) blk off d0.size w0)
    (d : Array Nat) (hd : d.size = d0.size) (W : World) (hS : SW enc w0 blk off d W) (a m : Nat) (hb : m + 1 ≤ d.size) (ham : a + 1 < m) (hs1 : SortedIn (tlK K) a m d) (hA : Ahead a m (m + 1) d) :
    Calls P (ρ.f 30) #[.agg #[.func (.func g) #[] lb, .func (.func sf) #[] sb], .int .i64 a, .int .i64 m, .int .i64 ((m : Int) + 1)] W
      (Leaves enc w0 blk off W fun d' => d'.size = d.size ∧ SortedIn (tlK K) a (m + 1) d' ∧ PermAll a (m + 1) d d') := by
  have mixed := L.mixed; have t0 := L.t0; have a0 := L.a0; have z0 := L.z0; have v0 := L.v0; have t3 := L.t3; have a3 := L.a3; have z3 := L.z3; have v3 := L.v3; have t4 := L.t4; have a4 := L.a4; have z4 := L.z4; have v4 := L.v4; have t26 := L.t26; have a26 := L.a26; have z26 := L.z26; have v26 := L.v26; have t38 := L.t38; have a38 := L.a38; have z38 := L.z38; have v38 := L.v38; have t42 := L.t42; have a42 := L.a42; have z42 := L.z42; have v42 := L.v42; have t47 := L.t47; have a47 := L.a47; have z47 := L.z47; have v47 := L.v47
  have u42 := run_underlying L.t42
  have hsz := E.small
  have hltW := hS.lt E.lt
  have h0 : ((m : Int) - (a : Int) == 1) = false := beq_eq_false_iff_ne.2 (by omega)
  have h1 : ((m : Int) + 1 - (m : Int) == 1) = true := beq_iff_eq.2 (by omega)
  go_enter L.f30, BodyGt.n30_ntmps ρ
  go_wp2
  go_loopw [12, 13] (fun vi vj wr => ∃ (i j : Nat), vi = .int .i64 i ∧ vj = .int .i64 j ∧ a ≤ i ∧ i ≤ j ∧ j ≤ m ∧ Hid (i = a ∨ ltK K d[m]! d[i - 1]! = false) ∧ Hid (j = m ∨ ltK K d[m]! d[j]! = true) ∧ Now enc w0 blk off W g lb sf sb d wr)
    (fun vi vj _ => (intOf vj).toNat - (intOf vi).toNat)
  case atStart => exact ⟨a, m, rfl, rfl, by omega, by omega, by omega, .inl rfl, .inl rfl, Now.start hS _⟩
  case round =>
    obtain ⟨i, j, rfl, rfl, hai, hij, hjb, HL, HR, hN⟩ := hrel
    by_cases hlt : i < j
    · have hl := hN.sw.less hless hd m ((i + j) / 2) (by omega) (by omega)
      rw [show (((i + j) / 2 : Nat) : Int) = ((i : Int) + (j : Int)) / 2 by omega] at hl
      have hc0 := hN.c0
      cases hv : ltK K d[m]! d[(i + j) / 2]! with
      | false =>
        rw [hv] at hl
        have HL2 : Hid ((i + j) / 2 + 1 = a ∨ ltK K d[m]! d[(i + j) / 2 + 1 - 1]! = false) := .inr hv
        clear HL hv
        go_wp2_with (go_at_fn g; refine hl.mono ?_; rintro e w' ⟨rfl, q, rfl⟩)
        go_roundw
        case rel => exact ⟨(i + j) / 2 + 1, j, by congr 1, rfl, by omega, by omega, hjb, HL2, HR, hN.drew q⟩
        case measure => simp [intOf]; omega
      | true =>
        rw [hv] at hl
        have HR2 : Hid ((i + j) / 2 = m ∨ ltK K d[m]! d[(i + j) / 2]! = true) := .inr hv
        clear HR hv
        go_wp2_with (go_at_fn g; refine hl.mono ?_; rintro e w' ⟨rfl, q, rfl⟩)
        go_roundw
        case rel => exact ⟨i, (i + j) / 2, rfl, by congr 1, hai, by omega, by omega, HL, HR2, hN.drew q⟩
        case measure => simp [intOf]; omega
    · obtain rfl : i = j := by omega
      go_wp2
      go_loopw [15] (fun vk wr => ∃ (k : Nat) (dk : Array Nat), vk = .int .i64 k ∧ i ≤ k ∧ k ≤ m ∧ dk.size = d.size ∧ Hid (∀ t, dk[t]! = rotAt d k m (m + 1) t) ∧ Hid (PermAll a (m + 1) d dk) ∧ Now enc w0 blk off W g lb sf sb dk wr)
        (fun vk _ => (intOf vk).toNat)
      case atStart => exact ⟨m, d, rfl, by omega, by omega, rfl, fun t => (rot_none1 d m (m + 1) t).symm, PermAll.refl a (m + 1) d, hN⟩
      case round =>
        clear hN
        obtain ⟨k', dk, rfl, hik, hkm, hsk, HA, HP, hN⟩ := hrel
        by_cases hlt2 : i < k'
        · obtain ⟨k, rfl⟩ : ∃ k, k' = k + 1 := ⟨k' - 1, by omega⟩
          have hs := E.swap wr dk (hN.sw.holds E.lt E.holds (hsk.trans hd)) (hsk.trans hd) (k + 1) (k) (by omega) (by omega)
          have hN2 : Now enc w0 blk off W g lb sf sb (swp dk (k + 1) (k)) _ := hN.swapped E.lt hltW (k + 1) (k) (by omega) (by omega)
          have HA2 : Hid (∀ t, (swp dk (k + 1) (k))[t]! = rotAt d k m (m + 1) t) := fun t => wander_left d dk m k (by omega) HA.out (by omega) t
          have HP2 : Hid (PermAll a (m + 1) d (swp dk (k + 1) (k))) := HP.out.swp hsk _ _ (by omega) (by omega) (by omega) (by omega)
          have hs2' : (swp dk (k + 1) (k)).size = d.size := by rw [size_swp]; exact hsk
          rw [show ((k + 1 : Nat) : Int) = (k : Int) + 1 by omega] at hs
          generalize (wr.setCell ⟨blk, off + (k + 1), none⟩ (enc dk[k]!)).setCell ⟨blk, off + (k), none⟩ (enc dk[k + 1]!) = w2 at hs hN2
          generalize swp dk (k + 1) (k) = d2 at hN2 HA2 HP2 hs2'
          have hc0 := hN.c0
          have hc1 := hN.c1
          clear hN HA HP
          go_wp2
          go_roundw
          case rel => exact ⟨k, d2, by congr 1, by omega, by omega, hs2', HA2, HP2, hN2⟩
          case measure => simp [intOf]
        · obtain rfl : k' = i := by omega
          go_wp2
          ((try simp only [Exit.inBlock, Exit.then]); refine bodyPost_ret (results_none rfl _ _ _) rfl ?_)
          exact ⟨rfl, dk, ⟨hsk, merge_one_right hs1 hA hai hjb HL.out HR.out HA.out, HP.out⟩, hN.sw, hN.kept⟩
end Go.Proofs.YtheochfpidahmaaGreatDoor
