/-
  distinctInts, and the law's own table of first values: the plain law and the walk (folder n001_68).
-/
import Derived.Test.YtheochfpidahmaaGreatDoorSortI
namespace Go.Proofs.YtheochfpidahmaaGreatDoor
open Go Go.RowKit Go.Sort

set_option maxRecDepth 100000 in
set_option maxHeartbeats 3200000 in
theorem distinct_any (a : Option Addr) (cap : Nat) (S : List Int) (w : World) (hl : S.length ≤ 1048576) (hrow : Row w a (intV S)) :
    Calls Tryz.prog 24 #[.slice a S.length cap] w fun e w' => ∃ (a' : Option Addr) (m c : Nat), m = (dist S S.length).length ∧ e = .returned (.slice a' m c) ∧ Row w' a' (intV (dist S S.length)) ∧ Below w.heap.size w w' := by
  obtain ⟨i0, hi, hz0, hz1, hz2⟩ := info_parts Tryz.infoIntS
  go_enter Tryz.func24, Tryz.ntmps24
  go_wp2_with (at_make; refine wpList_make_own _ rfl _ _ 22 rfl w.heap.size 3 i0 (.int .i64 0) 1 Tryz.underlying22 hi hz0 hz1 _ _ _ S.length rfl rfl rfl ?c1 ?c2 ?c3 ?_)
  case c1 => rw [hz2]; omega
  case c2 => unfold maxLen; omega
  case c3 => omega
  intro w1 hown hgrow
  have hb : Below w.heap.size w w1 := (Below.refl _ _).grown hgrow (Nat.le_refl _) (by intro k hk; cases hk)
  have hown' : w1.ownsRow w.heap.size 3 1 (.slice (some ⟨w.heap.size, 0, none⟩) 0 S.length) (intV (dist S 0)).length (intV (dist S 0)) := hown
  clear hown hgrow
  go_wp2
  go_loopw [3, 4] (fun v3 v4 wr => ∃ k : Nat, k ≤ S.length ∧ v4 = .int .i64 k ∧ wr.ownsRow w.heap.size 3 1 v3 (intV (dist S k)).length (intV (dist S k)) ∧ Below w.heap.size w wr) (fun _ i _ => S.length - (intOf i).toNat)
  case atStart => exact ⟨0, by omega, rfl, hown', hb⟩
  case round =>
    clear hown' hb
    obtain ⟨k, hk, rfl, hown, hb⟩ := hrel
    by_cases hlt : k < S.length
    · obtain ⟨b, off, rfl, hbw, hc⟩ := hrow.at (k := k) (by rw [intV_len]; exact hlt)
      have cc : ∀ w', Below w.heap.size w w' → w'.cell? ⟨b, off + k, none⟩ = some (.int .i64 (S.getD k 0)) := fun w' h => by
        rw [h.cell (p := ⟨b, off + k, none⟩) hbw]
        exact hc k _ (by rw [intV_get S hlt]; simp [hlt])
      have CC : Hid _ := cc
      obtain ⟨x, hx⟩ : ∃ x, S.getD k 0 = x := ⟨_, rfl⟩
      have HX : Hid (S.getD k 0 = x) := hx
      have q1 := cc wr hb
      rw [hx] at q1
      have hkI : (k : Int) < (S.length : Int) := by omega
      have hlen := dist_len S k
      have hl3 := intV_len (dist S k)
      have HL : Hid ((intV (dist S k)).length ≤ 1048577) := by show _ ≤ _; omega
      have hsz := hb.size
      clear hlen hl3
      by_cases hk0 : k = 0
      · have hd0 : ((k : Int) == 0) = true := by simp [hk0]
        have HO : Hid (dist S (k + 1) = dist S k ++ [S.getD k 0]) := dist_yes (.inl hk0)
        clear hc hk0 cc hx
        go_wp2_with fail
        go_quiet (fail)
        generalize hw5 : wr.drewN nq = w5
        have hown5 : w5.ownsRow w.heap.size 3 1 u3 (intV (dist S (k))).length (intV (dist S (k))) := by rw [← hw5]; exact hown
        have hb5 : Below w.heap.size w w5 := by rw [← hw5]; exact hb.trans ⟨rfl, rfl, rfl, Nat.le_refl _, fun _ _ => rfl⟩
        have hsz5 := hb5.size
        have q5 := CC.out w5 hb5
        rw [HX.out] at q5
        clear hown hb hw5
        go_wp2_with (at_builtin; refine wpList_append_own _ rfl _ _ 22 rfl w.heap.size 3 i0 (.int .i64 0) 1 8 Tryz.underlying22 hi hz0 hz1 hz2 rfl (by decide) _ _ _ rfl (hown5.alloc _) ⟨w5.heap.size, 0, none⟩ 1 1 [.int .i64 x] rfl rfl (cells_new _ [.int .i64 x] _) (fun u hu => by simp at hu; subst hu; rfl) ?_ ?_ ?_ ?_)
        · have := HL.out; unfold maxLen; omega
        · have := HL.out; omega
        · simp; omega
        intro v3 w3 hown3 hgrow3 _
        have hb6 := below_own' (hb5.alloc hsz5 _) (by simp; omega) (hown5.alloc _) hgrow3
        have R : w3.ownsRow w.heap.size 3 1 v3 (intV (dist S (k + 1))).length (intV (dist S (k + 1))) := by
          rw [HO.out, HX.out]
          simpa [intV] using hown3
        clear hown5 hown3 hgrow3 hb5
        go_wp2
        go_roundw
        case rel => exact ⟨k + 1, by omega, by go_num, R, hb6⟩
        case measure => simp [intOf]; omega
      · obtain ⟨y, hy⟩ : ∃ y, S.getD (k - 1) 0 = y := ⟨_, rfl⟩
        have q0 : wr.cell? ⟨b, off + (k - 1), none⟩ = some (.int .i64 y) := by
          rw [hb.cell (p := ⟨b, off + (k - 1), none⟩) hbw, ← hy]
          exact hc (k - 1) _ (by rw [intV_get S (by omega)]; simp [show k - 1 < S.length by omega])
        have hd0 : ((k : Int) == 0) = false := beq_eq_false_iff_ne.2 (by omega)
        obtain ⟨k', rfl⟩ : ∃ k', k = k' + 1 := ⟨k - 1, by omega⟩
        rw [Nat.add_sub_cancel] at q0 hy
        have hk2 : (k' : Int) < (S.length : Int) := by omega
        have hk3 : (k' : Int) + 1 < (S.length : Int) := by omega
        have hd1 : ((k' : Int) + 1 == 0) = false := beq_eq_false_iff_ne.2 (by omega)
        by_cases hxy : x = y
        · have hc0 : (x != y) = false := by simp [hxy]
          have HO : Hid (dist S (k' + 1 + 1) = dist S (k' + 1)) := dist_no (by rw [hx, Nat.add_sub_cancel, hy]; simp [hxy])
          have R : wr.ownsRow w.heap.size 3 1 u3 (intV (dist S (k' + 1 + 1))).length (intV (dist S (k' + 1 + 1))) := by rw [HO.out]; exact hown
          clear hc hk0 cc hx hy hxy hown
          go_wp2_with fail
          go_quiet (fail)
          go_wp2
          go_roundw
          case rel => exact ⟨k' + 1 + 1, by omega, by go_num, R, hb.trans ⟨rfl, rfl, rfl, Nat.le_refl _, fun _ _ => rfl⟩⟩
          case measure => simp [intOf]; omega
        · have hc0 : (x != y) = true := by simp [hxy]
          have HO : Hid (dist S (k' + 1 + 1) = dist S (k' + 1) ++ [S.getD (k' + 1) 0]) := dist_yes (.inr (by rw [hx, Nat.add_sub_cancel, hy]; exact hxy))
          clear hc hk0 cc hx hy hxy
          go_wp2_with fail
          go_quiet (fail)
          generalize hw5 : wr.drewN nq = w5
          have hown5 : w5.ownsRow w.heap.size 3 1 u3 (intV (dist S (k' + 1))).length (intV (dist S (k' + 1))) := by rw [← hw5]; exact hown
          have hb5 : Below w.heap.size w w5 := by rw [← hw5]; exact hb.trans ⟨rfl, rfl, rfl, Nat.le_refl _, fun _ _ => rfl⟩
          have hsz5 := hb5.size
          have q5 := CC.out w5 hb5
          rw [HX.out] at q5
          clear hown hb hw5
          go_wp2_with (at_builtin; refine wpList_append_own _ rfl _ _ 22 rfl w.heap.size 3 i0 (.int .i64 0) 1 8 Tryz.underlying22 hi hz0 hz1 hz2 rfl (by decide) _ _ _ rfl (hown5.alloc _) ⟨w5.heap.size, 0, none⟩ 1 1 [.int .i64 x] rfl rfl (cells_new _ [.int .i64 x] _) (fun u hu => by simp at hu; subst hu; rfl) ?_ ?_ ?_ ?_)
          · have := HL.out; unfold maxLen; omega
          · have := HL.out; omega
          · simp; omega
          intro v3 w3 hown3 hgrow3 _
          have hb6 := below_own' (hb5.alloc hsz5 _) (by simp; omega) (hown5.alloc _) hgrow3
          have R : w3.ownsRow w.heap.size 3 1 v3 (intV (dist S (k' + 1 + 1))).length (intV (dist S (k' + 1 + 1))) := by
            rw [HO.out, HX.out]
            simpa [intV] using hown3
          clear hown5 hown3 hgrow3 hb5
          go_wp2
          go_roundw
          case rel => exact ⟨k' + 1 + 1, by omega, by go_num, R, hb6⟩
          case measure => simp [intOf]; omega
    · obtain rfl : k = S.length := by omega
      go_wp2
      go_ret
      rcases hown.2 with ⟨rfl, hn⟩ | ⟨g, cap', cur, rfl, _⟩
      · exact ⟨none, 0, 0, by rw [intV_len] at hn; exact hn.symm, rfl, .inl (List.eq_nil_of_length_eq_zero hn), hb⟩
      · exact ⟨some ⟨g, 0, none⟩, _, cap', intV_len _, rfl, row_of_owns hown, hb⟩

/-! ### The first places -/
/-- F tells, for each of the ascending keys, the first place that bears it. -/
def Firsts (ks D : List Int) (F : Nat → Nat) : Prop := ∀ (j : Nat) (hj : j < D.length), ∃ h : F j < ks.length, ks[F j] = D[j] ∧ ∀ (i : Nat) (hi : i < F j), ks[i] ≠ D[j]
theorem firsts_of {ks D : List Int} (h : ∀ x, x ∈ D → x ∈ ks) : ∃ F, Firsts ks D F := by
  have : ∀ j, ∃ f, ∀ (hj : j < D.length), ∃ h : f < ks.length, ks[f] = D[j] ∧ ∀ (i : Nat) (hi : i < f), ks[i] ≠ D[j] := fun j => by
    by_cases hj : j < D.length
    · obtain ⟨i, hi, e⟩ := List.getElem_of_mem (h _ (List.getElem_mem hj))
      obtain ⟨f, ⟨hf, hfe⟩, hmin⟩ := exists_least (p := fun i => ∃ hi : i < ks.length, ks[i] = D[j]) ⟨i, hi, e⟩
      refine ⟨f, fun _ => ⟨hf, hfe, fun i hi he => ?_⟩⟩
      have := hmin i ⟨by omega, he⟩
      omega
    · exact ⟨0, fun h => absurd h hj⟩
  exact ⟨fun j => Classical.choose (this j), fun j hj => Classical.choose_spec (this j) hj⟩
def setL (F : Nat → Nat) (m k : Nat) : List Bool := (List.range m).map fun j => decide (F j < k)
def firstL (F : Nat → Nat) (vs : List Int) (m k : Nat) : List Int := (List.range m).map fun j => if F j < k then vs.getD (F j) 0 else 0
theorem setL_len (F : Nat → Nat) (m k : Nat) : (setL F m k).length = m := by simp [setL]
theorem firstL_len (F : Nat → Nat) (vs : List Int) (m k : Nat) : (firstL F vs m k).length = m := by simp [firstL]
section
variable {ks D : List Int} {F : Nat → Nat} (hF : Firsts ks D F) (hD : D.Pairwise (· < ·)) {k j : Nat} (hk : k < ks.length) (hj : j < D.length) (e : D[j] = ks[k])
include hF hD hk hj e
omit hD in
theorem first_le : F j ≤ k := by
  obtain ⟨_, _, h⟩ := hF j hj
  rcases Nat.lt_or_ge k (F j) with c | c
  · exact absurd e.symm (h k c)
  · exact c
theorem first_other {j' : Nat} (hj' : j' < D.length) (hne : j' ≠ j) : F j' ≠ k := fun h => by
  obtain ⟨h1, h2, _⟩ := hF j' hj'
  have : D[j'] = D[j] := by
    rw [← h2, e]
    congr 1
  exact hne (up_inj hD hj' hj this)
theorem setL_again (h : F j < k) : setL F D.length (k + 1) = setL F D.length k := by
  unfold setL
  refine List.map_congr_left fun q hq => ?_
  have hq' : q < D.length := List.mem_range.1 hq
  refine decide_eq_decide.2 ?_
  by_cases c : q = j
  · subst c; omega
  · have := first_other hF hD hk hj e hq' c
    omega
theorem firstL_again (vs : List Int) (h : F j < k) : firstL F vs D.length (k + 1) = firstL F vs D.length k := by
  unfold firstL
  refine List.map_congr_left fun q hq => ?_
  have hq' : q < D.length := List.mem_range.1 hq
  by_cases c : q = j
  · subst c; rw [if_pos (by omega), if_pos h]
  · have := first_other hF hD hk hj e hq' c
    by_cases c2 : F q < k
    · rw [if_pos (by omega), if_pos c2]
    · rw [if_neg (by omega), if_neg c2]
theorem setL_now (h : F j = k) : setL F D.length (k + 1) = (setL F D.length k).set j true := by
  apply List.ext_getElem
  · simp [setL]
  · intro q h1 h2
    rw [List.getElem_set]
    simp only [setL, List.getElem_map, List.getElem_range]
    have hq' : q < D.length := by rw [setL_len] at h1; exact h1
    by_cases c : j = q
    · subst c; rw [if_pos rfl]; exact decide_eq_true (by omega)
    · rw [if_neg c]
      have := first_other hF hD hk hj e hq' (Ne.symm c)
      exact decide_eq_decide.2 (by omega)
theorem firstL_now (vs : List Int) (h : F j = k) : firstL F vs D.length (k + 1) = (firstL F vs D.length k).set j (vs.getD k 0) := by
  apply List.ext_getElem
  · simp [firstL]
  · intro q h1 h2
    rw [List.getElem_set]
    simp only [firstL, List.getElem_map, List.getElem_range]
    have hq' : q < D.length := by rw [firstL_len] at h1; exact h1
    by_cases c : j = q
    · subst c; rw [if_pos rfl, if_pos (by omega), h]
    · rw [if_neg c]
      have := first_other hF hD hk hj e hq' (Ne.symm c)
      by_cases c2 : F q < k
      · rw [if_pos (by omega), if_pos c2]
      · rw [if_neg (by omega), if_neg c2]
end

/-- unique_by's values are the table's. -/
theorem uniq_first {vs ks D : List Int} {d : Array Nat} {n : Nat} {F : Nat → Nat} (hk : ks.length = n) (hS : SortedIn (tlK (keyF ks)) 0 n d) (hP : PermIn 0 n (Array.range n) d) (hF : Firsts ks D F) (hD : D.Pairwise (· < ·)) (hm : ∀ x, x ∈ D ↔ x ∈ ks) :
    uniqL vs ks d n = firstL F vs D.length n := by
  have hkeys : (headsK (keyF ks) d n).map (fun x => ks.getD x 0) = D := by
    have := uniq_up hk hS hP
    have h2 := uniq_mem hk hS hP
    unfold uniqL at this h2
    exact up_unique _ _ this hD fun x => (h2 x).trans (hm x).symm
  have hlen : (headsK (keyF ks) d n).length = D.length := by rw [← hkeys, List.length_map]
  unfold uniqL
  apply List.ext_getElem
  · rw [List.length_map, firstL_len, hlen]
  · intro j h1 h2
    have hj : j < D.length := by rw [firstL_len] at h2; exact h2
    obtain ⟨hF1, hF2, hF3⟩ := hF j hj
    simp only [firstL, List.getElem_map, List.getElem_range]
    rw [if_pos (by omega)]
    have hh : j < (headsK (keyF ks) d n).length := by omega
    obtain ⟨x1, x2⟩ := heads_first hS hP _ (List.getElem_mem hh)
    have hkx : ks.getD ((headsK (keyF ks) d n)[j]) 0 = D[j] := by
      have := List.getElem_of_eq hkeys.symm hj
      rw [this, List.getElem_map]
    have e1 : (headsK (keyF ks) d n)[j] ≤ F j := x2 _ (by omega) (by
      rw [keyF_at hF1, hF2, keyF_getD (by omega), hkx])
    have e2 : F j ≤ (headsK (keyF ks) d n)[j] := by
      rcases Nat.lt_or_ge ((headsK (keyF ks) d n)[j]) (F j) with c | c
      · have hx : (headsK (keyF ks) d n)[j] < ks.length := by omega
        have : ks[(headsK (keyF ks) d n)[j]] = D[j] := by rw [← hkx]; simp [hx]
        exact absurd this (hF3 _ c)
      · exact c
    rw [Nat.le_antisymm e1 e2]
end Go.Proofs.YtheochfpidahmaaGreatDoor
