/-
  FnUniqueByFirstPerKeyExact: the law's walk (folder n001_68).
-/
import Derived.Test.YtheochfpidahmaaGreatDoorFirst
import Derived.Test.YtheochfpidahmaaGreatDoorUniqLaw
namespace Go.Proofs.YtheochfpidahmaaGreatDoor
open Go Go.RowKit Go.Sort

/-- A row of values in a block of its own, none of its cells frozen. -/
def RV (w : World) (g : Nat) (V : List Value) : Prop := ∀ j (h : j < V.length), w.cell? ⟨g, j, none⟩ = some V[j] ∧ w.frozen? ⟨g, j, none⟩ = false
theorem RV.other {w : World} {g g' : Nat} {V : List Value} (h : RV w g V) (hne : g ≠ g') (k : Nat) (u : Value) : RV (w.setCell ⟨g', k, none⟩ u) g V := fun j hj => by
  rw [setCell_eq, cell?_mapBlock_other _ _ _ _ hne, frozen?_mapBlock]
  exact h j hj
theorem RV.store {w : World} {g : Nat} {V : List Value} (h : RV w g V) {k : Nat} (hk : k < V.length) (v : Value) : RV (w.setCell ⟨g, k, none⟩ v) g (V.set k v) := by
  intro j hj
  have hj' : j < V.length := by simpa using hj
  obtain ⟨c, e, fr, hb, hc⟩ := cells_of_cell? (h k hk).1
  obtain ⟨c', e', fr', hb', hc'⟩ := cells_of_cell? (h j hj').1
  rw [hb] at hb'
  injection hb' with hb'
  injection hb' with hcc
  subst hcc
  rw [setCell_eq]
  refine ⟨?_, by rw [frozen?_mapBlock]; exact (h j hj').2⟩
  rw [cell?_mapBlock w g _ _ hb, Array.getElem?_setIfInBounds]
  by_cases e : k = j
  · subst e
    have : k < c.size := (Array.getElem?_eq_some_iff.1 hc).1
    rw [if_pos rfl, if_pos this]
    simp
  · rw [if_neg e, hc', List.getElem_set_ne e]
theorem RV.below {w w' : World} {g B : Nat} {V : List Value} (h : RV w g V) (hg : g < B) (hb : Below B w w') : RV w' g V := fun j hj => by
  rw [hb.cell (p := ⟨g, j, none⟩) hg, hb.frozen (p := ⟨g, j, none⟩) hg]
  exact h j hj
theorem RV.row {w : World} {g : Nat} {V : List Value} (h : RV w g V) (hg : g < w.heap.size) : Row w (some ⟨g, 0, none⟩) V :=
  .inr ⟨g, 0, rfl, hg, fun j u hu => by
    obtain ⟨hj, rfl⟩ := List.getElem?_eq_some_iff.1 hu
    rw [Nat.zero_add]
    exact (h j hj).1⟩
theorem rv_own {w : World} {base g n cap : Nat} {e : TypeId} {V : List Value} (h : w.ownsRow base e 1 (.slice (some ⟨g, 0, none⟩) n cap) n V) : RV w g V := fun j hj => by
  have hn : n = V.length := by have := h.1; omega
  exact ⟨by rw [h.cellAt j (by omega)]; exact List.getElem?_eq_getElem hj, h.frozenAt j⟩

theorem bytesF_any (a1 a2 : Option Addr) (c1 c2 n1 n2 : Nat) (w : World) (hl1 : n1 ≤ 140737488351232) (hl2 : n2 ≤ 140737488351232) :
    Calls Tryz.prog 23 #[.slice a1 n1 c1, .slice a2 n2 c2] w fun e w' => SomeBool e ∧ w = w' := by
  go_enter Tryz.func23, Tryz.ntmps23
  go_wp2
  all_goals (go_ret; exact ⟨⟨_, rfl⟩, rfl⟩)

theorem distinct_n (a : Option Addr) (cap n : Nat) (S : List Int) (w : World) (hn : S.length = n) (hl : n ≤ 1048576) (hrow : Row w a (intV S)) :
    Calls Tryz.prog 24 #[.slice a n cap] w fun e w' => ∃ (a' : Option Addr) (m c : Nat), m = (dist S S.length).length ∧ e = .returned (.slice a' m c) ∧ Row w' a' (intV (dist S S.length)) ∧ Below w.heap.size w w' := by
  subst hn
  exact distinct_any a cap S w hl hrow

set_option maxRecDepth 100000 in
set_option maxHeartbeats 1600000 in
theorem zzUniqueBy_any (a1 a2 : Option Addr) (c1 c2 n : Nat) (vs ks : List Int) (w : World) (hv : vs.length = n) (hk : ks.length = n) (hl : n ≤ 1048576) (r1 : Row w a1 (anyI vs)) (r2 : Row w a2 (anyI ks)) :
    Calls Tryz.prog 26 #[.iface 25 (.slice a1 n c1), .iface 25 (.slice a2 n c2)] w (Uniq vs ks n w) := by
  have HC : Hid (∀ s, Calls Tryz.prog 30 _ w (Uniq vs ks n w)) := fun s => uniqueBy_any s a1 a2 c1 c2 n vs ks w hv hk hl r1 r2
  clear r1 r2 hv hk
  go_enter Tryz.func26, Tryz.ntmps26
  go_wp2_with (first | (go_at_call 30; refine (HC.out _).mono ?_; rintro e w' ⟨a', m, cap, d, hs, hp, hm, rfl, hr, hb⟩; have HM' : Hid (m = (uniqL vs ks d n).length) := hm; clear hm) | go_in)
  go_ret
  exact ⟨a', m, cap, d, hs, hp, HM'.out, rfl, hr, hb⟩

set_option maxRecDepth 100000 in
set_option maxHeartbeats 3200000 in
theorem law_FnUniqueByFirstPerKeyExact (a : Option Addr) (cap : Nat) (vs : List Int) (b : Option Addr) (cap2 : Nat) (ks : List Int) (w : World) (hl : vs.length ≤ 140737488351232) (_ha : a = none → vs = []) (_hcap : a = none → cap = 0) (hrow : Row w a (intV vs))
    (hlb : ks.length ≤ 140737488351232) (_hab : b = none → ks = []) (_hcapb : b = none → cap2 = 0) (hrowb : Row w b (intV ks)) :
    Calls Tryz.prog 7 #[.slice a vs.length cap, .slice b ks.length cap2] w (Holds w) := by
  have mk := fun (x : Value) (w : World) => run_makeInterface (P := Tryz.prog) w 25 x (by kernel_rfl)
  obtain ⟨i0, hi, hz0, hz1, hz2⟩ := info_parts Tryz.infoIntS
  obtain ⟨b0, bi, bz0, bz1, bz2⟩ := info_parts Tryz.infoBool
  go_enter Tryz.func7, Tryz.ntmps7
  go_wp2_with fail
  refine (bytesF_any a b cap cap2 vs.length ks.length w hl hlb).mono ?_
  rintro e w' ⟨⟨g, rfl⟩, rfl⟩
  cases g with
  | false =>
    go_wp2
    go_ret
    exact ⟨rfl, Below.refl _ _⟩
  | true =>
  by_cases h16 : 65536 < vs.length
  · go_wp2_with fail
    go_ret
    exact ⟨rfl, Below.refl _ _⟩
  by_cases h17 : 65536 < ks.length
  · go_wp2_with fail
    go_ret
    exact ⟨rfl, Below.refl _ _⟩
  by_cases hlen : ¬ vs.length = ks.length
  · have hne : ((vs.length : Int) != (ks.length : Int)) = true := bne_iff_ne.2 (by omega)
    go_wp2_with fail
    go_ret
    exact ⟨rfl, Below.refl _ _⟩
  have hlen' : vs.length = ks.length := by omega
  obtain ⟨n, hn⟩ : ∃ n, ks.length = n := ⟨_, rfl⟩
  rw [hlen', hn]
  rw [hn] at h17
  have HV : Hid (vs.length = n) := hlen'.trans hn
  have HK : Hid (ks.length = n) := hn
  have hne : ((n : Int) != (n : Int)) = false := by simp
  clear hlen hlen' hn h16 hl hlb
  go_wp2_with fail
  have HS0 : Hid (Calls Tryz.prog 25 _ w _) := sortInts_any b cap2 ks w (by rw [HK.out]; omega) hrowb
  rw [HK.out] at HS0
  refine HS0.out.mono ?_
  rintro e w1 ⟨g1, S, rfl, hS1, hS2, rS, hb1⟩
  rw [HK.out]
  have hSn : S.length = n := hS2.length_eq.trans HK.out
  obtain ⟨D, hDd⟩ : ∃ D, dist S S.length = D := ⟨_, rfl⟩
  have HD : Hid (D.Pairwise (· < ·)) := by rw [← hDd]; exact dist_up hS1 _ (Nat.le_refl _)
  have HM : Hid (∀ x, x ∈ D ↔ x ∈ ks) := fun x => by rw [← hDd, dist_mem]; exact hS2.mem_iff
  have hDl : D.length ≤ n := by rw [← hDd, ← hSn]; exact dist_len S _
  have HC1 := distinct_n (some ⟨g1, 0, none⟩) n n S w1 hSn (by omega) rS
  rw [hDd] at HC1
  have HC1' : Hid (Calls Tryz.prog 24 _ w1 _) := HC1
  clear HC1 hS1 hS2 rS hSn hDd HS0
  go_wp2_with fail
  refine HC1'.out.mono ?_
  rintro e w2 ⟨a2, m, c2, rfl, rfl, rD, hb2⟩
  have hb12 := hb1.trans (hb2.mono hb1.size)
  have rv := hrow.below (Nat.le_refl _) hb12
  have rk := hrowb.below (Nat.le_refl _) hb12
  obtain ⟨F, hF⟩ := firsts_of fun x hx => (HM.out x).1 hx
  have HF : Hid (Firsts ks D F) := hF
  clear hb1 hb2 hrow hrowb HC1' hF
  go_wp2_with (at_make; refine wpList_make_full _ rfl _ _ 22 rfl w2.heap.size 3 i0 (.int .i64 0) 1 Tryz.underlying22 hi hz0 hz1 _ _ _ _ D.length rfl rfl rfl rfl ?c1 ?c2 ?c3 ?_)
  case c1 => rw [hz2]; omega
  case c2 => unfold maxLen; omega
  case c3 => omega
  intro w3 hown3 hgrow3
  have hb3 : Below w2.heap.size w2 w3 := (Below.refl _ _).grown hgrow3 (Nat.le_refl _) (by intro k hk; cases hk)
  have hlt3 : w2.heap.size < w3.heap.size := (hown3.lt w2.heap.size rfl).2
  have hA : RV w3 w2.heap.size (intV (firstL F vs D.length 0)) := by
    refine rv_own (base := w2.heap.size) (e := 3) (n := D.length) (cap := D.length) ?_
    rw [show intV (firstL F vs D.length 0) = List.replicate D.length (.int .i64 0) by
      apply List.ext_getElem
      · simp [intV, firstL]
      · intro q h1 h2; simp [intV, firstL]]
    simpa [Value.cells, toList_madeCells_one] using hown3
  clear hown3 hgrow3
  go_wp2_with (at_make; refine wpList_make_full _ rfl _ _ 34 rfl w3.heap.size 4 b0 (.bool false) 1 Tryz.underlying34 bi bz0 bz1 _ _ _ _ D.length rfl rfl rfl rfl ?c1 ?c2 ?c3 ?_)
  case c1 => rw [bz2]; omega
  case c2 => unfold maxLen; omega
  case c3 => omega
  intro w4 hown4 hgrow4
  have hb4 : Below w3.heap.size w3 w4 := (Below.refl _ _).grown hgrow4 (Nat.le_refl _) (by intro k hk; cases hk)
  have hlt4 : w3.heap.size < w4.heap.size := (hown4.lt w3.heap.size rfl).2
  have hB4 : RV w4 w3.heap.size (boolV (setL F D.length 0)) := by
    refine rv_own (base := w3.heap.size) (e := 4) (n := D.length) (cap := D.length) ?_
    rw [show boolV (setL F D.length 0) = List.replicate D.length (.bool false) by
      apply List.ext_getElem
      · simp [boolV, setL]
      · intro q h1 h2; simp [boolV, setL]]
    simpa [Value.cells, toList_madeCells_one] using hown4
  have hA4 := hA.below hlt3 hb4
  have hb24 : Below w2.heap.size w2 w4 := hb3.trans (hb4.mono (by omega))
  clear hown4 hgrow4 hA hb3 hb4
  obtain ⟨ga, hga⟩ : ∃ ga, w2.heap.size = ga := ⟨_, rfl⟩
  obtain ⟨gb, hgb⟩ : ∃ gb, w3.heap.size = gb := ⟨_, rfl⟩
  rw [hga] at hA4 hlt3
  rw [hgb] at hB4 hlt4 hlt3
  rw [hga, hgb]
  have hgab : ga ≠ gb := by omega
  go_wp2
  go_loopw [8] (fun i wr => ∃ k : Nat, i = .int .i64 k ∧ k ≤ n ∧ Hid (RV wr ga (intV (firstL F vs D.length k))) ∧ Hid (RV wr gb (boolV (setL F D.length k))) ∧ gb < wr.heap.size ∧ Below w2.heap.size w2 wr) (fun i _ => n - (intOf i).toNat)
  case atStart => exact ⟨0, rfl, by omega, hA4, hB4, hlt4, hb24⟩
  case round =>
    clear hA4 hB4 hlt4 hb24
    obtain ⟨k, rfl, hk, HA, HB, hgs, hb⟩ := hrel
    by_cases hlt : k < n
    · have hkk : k < ks.length := by rw [HK.out]; exact hlt
      have hkv : k < vs.length := by rw [HV.out]; exact hlt
      obtain ⟨x1, o1, rfl, hx1, g1'⟩ := rv.at (k := k) (by rw [intV_len]; exact hkv)
      obtain ⟨x2, o2, rfl, hx2, g2'⟩ := rk.at (k := k) (by rw [intV_len]; exact hkk)
      obtain ⟨xv, hxv⟩ : ∃ xv, vs.getD k 0 = xv := ⟨_, rfl⟩
      obtain ⟨kv, hkv2⟩ : ∃ kv, ks[k] = kv := ⟨_, rfl⟩
      have cv : ∀ w', Below w2.heap.size w2 w' → w'.cell? ⟨x1, o1 + k, none⟩ = some (.int .i64 xv) := fun w' h => by
        rw [h.cell (p := ⟨x1, o1 + k, none⟩) hx1, ← hxv]
        exact g1' k _ (by rw [intV_get vs hkv]; simp [hkv])
      have q2 : wr.cell? ⟨x2, o2 + k, none⟩ = some (.int .i64 kv) := by
        rw [hb.cell (p := ⟨x2, o2 + k, none⟩) hx2, ← hkv2]
        exact g2' k _ (intV_get ks hkk)
      obtain ⟨j, hj, hje⟩ := List.getElem_of_mem ((HM.out kv).2 (by rw [← hkv2]; exact List.getElem_mem hkk))
      have HE : Hid (∀ h : k < ks.length, D[j] = ks[k]) := fun h => hje.trans hkv2.symm
      have HSC : Hid (Calls Tryz.prog 22 _ wr _) := searchInt_any a2 c2 D j kv wr (by omega) (rD.below (Nat.le_refl _) hb) HD.out hj hje
      have q1 := cv wr hb
      have CV : Hid _ := cv
      have hkI : (k : Int) < (n : Int) := by omega
      have hjI : (j : Int) < (D.length : Int) := by omega
      have hFle : F j ≤ k := first_le HF.out hkk hj (HE.out hkk)
      have qb := (HB.out j (by rw [boolV_len, setL_len]; exact hj))
      have ebj : (boolV (setL F D.length k))[j]'(by rw [boolV_len, setL_len]; exact hj) = .bool (decide (F j < k)) := by simp [boolV, setL]
      rw [ebj] at qb
      obtain ⟨qb1, qb2⟩ := qb
      clear g1' g2' hkv2 hje ebj cv
      by_cases hc : F j < k
      · rw [decide_eq_true hc] at qb1
        have e1 := setL_again HF.out HD.out hkk hj (HE.out hkk) hc
        have e2 := firstL_again HF.out HD.out hkk hj (HE.out hkk) vs hc
        have HA2 : Hid (RV wr ga (intV (firstL F vs D.length (k + 1)))) := by show RV _ _ _; rw [e2]; exact HA.out
        have HB2 : Hid (RV wr gb (boolV (setL F D.length (k + 1)))) := by show RV _ _ _; rw [e1]; exact HB.out
        clear e1 e2 HA HB hc hFle
        go_wp2_with (go_at_call 22; refine HSC.out.mono ?_; rintro e w' ⟨rfl, rfl⟩)
        go_roundw
        case rel => exact ⟨k + 1, by go_num, by omega, HA2, HB2, hgs, hb⟩
        case measure => simp [intOf]; omega
      · rw [decide_eq_false hc] at qb1
        have hFk : F j = k := by omega
        have e1 := setL_now HF.out HD.out hkk hj (HE.out hkk) hFk
        have e2 := firstL_now HF.out HD.out hkk hj (HE.out hkk) vs hFk
        have hbS : Below w2.heap.size w2 (wr.setCell ⟨gb, j, none⟩ (.bool true)) := hb.setCell (by show w2.heap.size ≤ gb; omega) _
        have q3 := CV.out _ hbS
        have hBS := HB.out.store (k := j) (by rw [boolV_len, setL_len]; exact hj) (.bool true)
        rw [boolV_set, ← e1] at hBS
        have hAS := HA.out.other hgab j (.bool true)
        have qa := hAS j (by rw [intV_len, firstL_len]; exact hj)
        obtain ⟨qa1, qa2⟩ := qa
        have hAS2 := hAS.store (k := j) (by rw [intV_len, firstL_len]; exact hj) (.int .i64 xv)
        have es : (intV (firstL F vs D.length k)).set j (.int .i64 xv) = intV (firstL F vs D.length (k + 1)) := by rw [e2, hxv]; simp [intV, List.map_set]
        rw [es] at hAS2
        have hBS2 := hBS.other hgab.symm j (.int .i64 xv)
        have hb2 : Below w2.heap.size w2 ((wr.setCell ⟨gb, j, none⟩ (.bool true)).setCell ⟨ga, j, none⟩ (.int .i64 xv)) := hbS.setCell (by show w2.heap.size ≤ ga; omega) _
        have hgs2 : gb < ((wr.setCell ⟨gb, j, none⟩ (.bool true)).setCell ⟨ga, j, none⟩ (.int .i64 xv)).heap.size := by simpa [World.setCell] using hgs
        have HA2 : Hid (RV ((wr.setCell ⟨gb, j, none⟩ (.bool true)).setCell ⟨ga, j, none⟩ (.int .i64 xv)) ga (intV (firstL F vs D.length (k + 1)))) := hAS2
        have HB2 : Hid (RV ((wr.setCell ⟨gb, j, none⟩ (.bool true)).setCell ⟨ga, j, none⟩ (.int .i64 xv)) gb (boolV (setL F D.length (k + 1)))) := hBS2
        have eaj : ∃ y, (intV (firstL F vs D.length k))[j]'(by rw [intV_len, firstL_len]; exact hj) = .int .i64 y := ⟨(firstL F vs D.length k)[j]'(by rw [firstL_len]; exact hj), by simp [intV]⟩
        obtain ⟨y, eaj⟩ := eaj
        rw [eaj] at qa1
        clear e1 e2 HA HB hc hFle hFk hBS hAS hAS2 hBS2 hbS hb es eaj hgs
        go_wp2_with (go_at_call 22; refine HSC.out.mono ?_; rintro e w' ⟨rfl, rfl⟩)
        go_roundw
        case rel => exact ⟨k + 1, by go_num, by omega, HA2, HB2, hgs2, hb2⟩
        case measure => simp [intOf]; omega
    · obtain rfl : k = n := by omega
      have hbw := hb12.trans (hb.mono hb12.size)
      have rv4 := rv.below (Nat.le_refl _) hb
      have rk4 := rk.below (Nat.le_refl _) hb
      have rF : Row wr (some ⟨ga, 0, none⟩) (intV (firstL F vs D.length k)) := HA.out.row (by omega)
      have HFL : Hid ((firstL F vs D.length k).length = D.length) := firstL_len F vs D.length k
      clear HA HB rD rv rk hb hb12
      go_wp2_with fail
      have hT1 := toAny_any a cap vs wr (by rw [HV.out]; omega) rv4
      rw [HV.out] at hT1
      refine hT1.mono ?_
      rintro e w5 ⟨a5, c5, n5, hn5, rfl, hown5, hb5, _⟩
      rw [anyI_len, HV.out] at hn5
      have hn5' := hn5.symm
      clear hn5
      subst hn5'
      have r5 : Row w5 a5 (anyI vs) := made_row (by rw [anyI_len, HV.out]) hown5
      have rk5 := rk4.below (Nat.le_refl _) hb5
      have rF5 := rF.below (Nat.le_refl _) hb5
      have hbw5 := hbw.trans (hb5.mono hbw.size)
      clear hown5 hT1 rk4 rF hb5 hbw
      go_wp2_with fail
      have hT2 := toAny_any b cap2 ks w5 (by rw [HK.out]; omega) rk5
      rw [HK.out] at hT2
      refine hT2.mono ?_
      rintro e w6 ⟨a6, c6, n6, hn6, rfl, hown6, hb6, _⟩
      rw [anyI_len, HK.out] at hn6
      have hn6' := hn6.symm
      clear hn6
      subst hn6'
      have r6 : Row w6 a6 (anyI ks) := made_row (by rw [anyI_len, HK.out]) hown6
      have r5' := r5.below (Nat.le_refl _) hb6
      have rF6 := rF5.below (Nat.le_refl _) hb6
      have hbw6 := hbw5.trans (hb6.mono hbw5.size)
      clear hown6 hT2 r5 rF5 hb6 hbw5 rk5
      go_wp2_with fail
      refine (zzUniqueBy_any a5 a6 c5 c6 k vs ks w6 HV.out HK.out (by omega) r5' r6).mono ?_
      rintro e w7 ⟨a7, m7, c7, d7, hs7, hp7, rfl, rfl, r7, hb7⟩
      have hU : uniqL vs ks d7 k = firstL F vs D.length k := uniq_first HK.out hs7 hp7 HF.out HD.out HM.out
      rw [hU] at r7 ⊢
      have rF7 := rF6.below (Nat.le_refl _) hb7
      have hbw7 := hbw6.trans (hb7.mono hbw6.size)
      clear r5' r6 rF6 hb7 hbw6 hs7 hp7 hU
      go_wp2_with fail
      refine (fromAny_any a7 c7 (firstL F vs D.length k) w7 (by rw [HFL.out]; omega) r7).mono ?_
      rintro e w8 ⟨a8, c8, rfl, r8, hb8⟩
      have rF8 := rF7.below (Nat.le_refl _) hb8
      have hbw8 := hbw7.trans (hb8.mono hbw7.size)
      have HEQ' : Hid (Calls Tryz.prog 20 #[.slice a8 (firstL F vs D.length k).length c8, .slice (some ⟨ga, 0, none⟩) D.length D.length] w8 fun e w' => e = .returned (.bool true) ∧ Drawn w8 w') := by
        have h := equalInts_any a8 (some ⟨ga, 0, none⟩) c8 D.length (firstL F vs D.length k) (firstL F vs D.length k) w8 (by rw [HFL.out]; omega) r8 rF8 rfl
        show Calls _ _ _ _ _
        rw [HFL.out] at h ⊢
        exact h
      clear r7 rF7 hb8 hbw7 r8 rF8
      go_wp2_with fail
      refine HEQ'.out.mono ?_
      rintro e w9 ⟨rfl, hd⟩
      go_wp2
      go_ret
      exact ⟨rfl, hbw8.trans (hd.below _)⟩
end Go.Proofs.YtheochfpidahmaaGreatDoor
