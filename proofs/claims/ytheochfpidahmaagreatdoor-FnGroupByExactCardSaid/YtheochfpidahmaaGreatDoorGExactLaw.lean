/-
  FnGroupByExact: the law's walk (folder n001_68).
-/
import Derived.Test.YtheochfpidahmaaGreatDoorGExact
namespace Go.Proofs.YtheochfpidahmaaGreatDoor
open Go Go.RowKit Go.Sort

theorem Tryz.infoSl : (Tryz.prog.info? 22).map (fun i => (i.zero, i.size, i.bytes)) = some (some (.slice none 0 0), 1, 24) := by kernel_rfl
theorem bytesG_any (a1 a2 : Option Addr) (c1 c2 n1 n2 : Nat) (w : World) (hl1 : n1 ≤ 140737488351232) (hl2 : n2 ≤ 140737488351232) :
    Calls Tryz.prog 28 #[.slice a1 n1 c1, .slice a2 n2 c2] w fun e w' => SomeBool e ∧ w = w' := by
  go_enter Tryz.func28, Tryz.ntmps28
  go_wp2
  all_goals (go_ret; exact ⟨⟨_, rfl⟩, rfl⟩)

set_option maxRecDepth 100000 in
set_option maxHeartbeats 6400000 in
theorem law_FnGroupByExact (a : Option Addr) (cap : Nat) (vs : List Int) (b : Option Addr) (cap2 : Nat) (ks : List Int) (w : World) (hl : vs.length ≤ 140737488351232) (_ha : a = none → vs = []) (_hcap : a = none → cap = 0) (hrow : Row w a (intV vs))
    (hlb : ks.length ≤ 140737488351232) (_hab : b = none → ks = []) (_hcapb : b = none → cap2 = 0) (hrowb : Row w b (intV ks)) :
    Calls Tryz.prog 9 #[.slice a vs.length cap, .slice b ks.length cap2] w (Holds w) := by
  have mk := fun (x : Value) (w : World) => run_makeInterface (P := Tryz.prog) w 25 x (by kernel_rfl)
  have ha1 := fun (v : Value) (w : World) => a_arr v w
  obtain ⟨i0, hi, hz0, hz1, hz2⟩ := info_parts Tryz.infoSl
  go_enter Tryz.func9, Tryz.ntmps9
  go_wp2_with fail
  refine (bytesG_any a b cap cap2 vs.length ks.length w hl hlb).mono ?_
  rintro e w' ⟨⟨g, rfl⟩, rfl⟩
  cases g with
  | false =>
    go_wp2
    go_ret
    exact ⟨rfl, Below.refl _ _⟩
  | true =>
  by_cases h16 : 65536 < vs.length
  · go_wp2_with fail
    go_ret
    exact ⟨rfl, Below.refl _ _⟩
  by_cases h17 : 65536 < ks.length
  · go_wp2_with fail
    go_ret
    exact ⟨rfl, Below.refl _ _⟩
  by_cases hlen : ¬ vs.length = ks.length
  · have hne : ((vs.length : Int) != (ks.length : Int)) = true := bne_iff_ne.2 (by omega)
    go_wp2_with fail
    go_ret
    exact ⟨rfl, Below.refl _ _⟩
  have hlen' : vs.length = ks.length := by omega
  obtain ⟨n, hn⟩ : ∃ n, ks.length = n := ⟨_, rfl⟩
  rw [hlen', hn]
  rw [hn] at h17
  have HV : Hid (vs.length = n) := hlen'.trans hn
  have HK : Hid (ks.length = n) := hn
  have hne : ((n : Int) != (n : Int)) = false := by simp
  clear hlen hlen' hn h16 hl hlb
  go_wp2_with fail
  have HS0 : Hid (Calls Tryz.prog 25 _ w _) := sortInts_any b cap2 ks w (by rw [HK.out]; omega) hrowb
  rw [HK.out] at HS0
  refine HS0.out.mono ?_
  rintro e w1 ⟨g1, S, rfl, hS1, hS2, rS, hb1⟩
  rw [HK.out]
  have hSn : S.length = n := hS2.length_eq.trans HK.out
  obtain ⟨D, hDd⟩ : ∃ D, dist S S.length = D := ⟨_, rfl⟩
  have HD : Hid (D.Pairwise (· < ·)) := by rw [← hDd]; exact dist_up hS1 _ (Nat.le_refl _)
  have HM : Hid (∀ x, x ∈ D ↔ x ∈ ks) := fun x => by rw [← hDd, dist_mem]; exact hS2.mem_iff
  have hDl : D.length ≤ n := by rw [← hDd, ← hSn]; exact dist_len S _
  have HC1 := distinct_n (some ⟨g1, 0, none⟩) n n S w1 hSn (by omega) rS
  rw [hDd] at HC1
  have HC1' : Hid (Calls Tryz.prog 24 _ w1 _) := HC1
  clear HC1 hS1 hS2 rS hSn hDd HS0
  go_wp2_with fail
  refine HC1'.out.mono ?_
  rintro e w2 ⟨a2, m, c2, rfl, rfl, rD, hb2⟩
  have hb12 := hb1.trans (hb2.mono hb1.size)
  have rv := hrow.below (Nat.le_refl _) hb12
  have rk := hrowb.below (Nat.le_refl _) hb12
  clear hb1 hb2 hrow hrowb HC1'
  go_wp2_with (at_make; refine wpList_make_full _ rfl _ _ 38 rfl w2.heap.size 22 i0 (.slice none 0 0) 1 Tryz.underlying38 hi hz0 hz1 _ _ _ _ D.length rfl rfl rfl rfl ?c1 ?c2 ?c3 ?_)
  case c1 => rw [hz2]; omega
  case c2 => unfold maxLen; omega
  case c3 => omega
  intro w3 hown3 hgrow3
  have hb3 : Below w2.heap.size w2 w3 := (Below.refl _ _).grown hgrow3 (Nat.le_refl _) (by intro k hk; cases hk)
  have hown3' : w3.ownsRow w2.heap.size 22 1 (.slice (some ⟨w2.heap.size, 0, none⟩) D.length D.length) D.length (List.replicate D.length (.slice none 0 0)) := by
    simpa [Value.cells, toList_madeCells_one] using hown3
  have HX0 : Hid (XS w2.heap.size D.length w2.heap.size w3 (fun _ => .slice none 0 0) (expL vs ks D 0)) :=
    ⟨(hown3'.lt w2.heap.size rfl).2, fun j hj => ⟨by rw [hown3'.cellAt j (by omega)]; simp [hj], hown3'.frozenAt j⟩, fun j _ => World.ownsRow_nil w3 _ 3 1, (fun j _ h => by cases h), (fun i _ j _ _ g h => by cases h)⟩
  clear hown3 hown3' hgrow3
  obtain ⟨ge, hge⟩ : ∃ ge, w2.heap.size = ge := ⟨_, rfl⟩
  have HX1 : Hid (XS w2.heap.size D.length ge w3 (fun _ => .slice none 0 0) (expL vs ks D 0)) := by rw [← hge]; exact HX0
  rw [hge]
  have hge2 : w2.heap.size ≤ ge := by omega
  clear HX0 hge
  go_wp2
  go_loopw [7] (fun i wr => ∃ (k : Nat) (v : Nat → Value), i = .int .i64 k ∧ k ≤ n ∧ Hid (XS w2.heap.size D.length ge wr v (expL vs ks D k)) ∧ Below w2.heap.size w2 wr) (fun i _ => n - (intOf i).toNat)
  case atStart => exact ⟨0, _, rfl, by omega, HX1, hb3⟩
  case round =>
    clear HX1 hb3
    obtain ⟨k, v, rfl, hk, HX, hb⟩ := hrel
    by_cases hlt : k < n
    · have hkk : k < ks.length := by rw [HK.out]; exact hlt
      have hkv : k < vs.length := by rw [HV.out]; exact hlt
      obtain ⟨x1, o1, rfl, hx1, g1'⟩ := rv.at (k := k) (by rw [intV_len]; exact hkv)
      obtain ⟨x2, o2, rfl, hx2, g2'⟩ := rk.at (k := k) (by rw [intV_len]; exact hkk)
      obtain ⟨xv, hxv⟩ : ∃ xv, vs.getD k 0 = xv := ⟨_, rfl⟩
      obtain ⟨kv, hkv2⟩ : ∃ kv, ks[k] = kv := ⟨_, rfl⟩
      have cv : ∀ w', Below w2.heap.size w2 w' → w'.cell? ⟨x1, o1 + k, none⟩ = some (.int .i64 xv) := fun w' h => by
        rw [h.cell (p := ⟨x1, o1 + k, none⟩) hx1, ← hxv]
        exact g1' k _ (by rw [intV_get vs hkv]; simp [hkv])
      have q2 : wr.cell? ⟨x2, o2 + k, none⟩ = some (.int .i64 kv) := by
        rw [hb.cell (p := ⟨x2, o2 + k, none⟩) hx2, ← hkv2]
        exact g2' k _ (intV_get ks hkk)
      obtain ⟨j, hj, hje⟩ := List.getElem_of_mem ((HM.out kv).2 (by rw [← hkv2]; exact List.getElem_mem hkk))
      have HSC : Hid (Calls Tryz.prog 22 _ wr _) := searchInt_any a2 c2 D j kv wr (by omega) (rD.below (Nat.le_refl _) hb) HD.out hj hje
      have hkeq : ks.getD k 0 = D.getD j 0 := by
        have e1 : ks.getD k 0 = ks[k] := by simp [hkk]
        have e2 : D.getD j 0 = D[j] := by simp [hj]
        rw [e1, e2, hje, hkv2]
      have HE : Hid (∀ i, i < D.length → expL vs ks D (k + 1) i = if i = j then expL vs ks D k j ++ [xv] else expL vs ks D k i) := fun i hi' => by
        by_cases q : i = j
        · subst q; rw [if_pos rfl, expL_hit hkeq, hxv]
        · rw [if_neg q]
          refine expL_miss fun h => q ?_
          rw [hkeq] at h
          have e1 : D.getD j 0 = D[j] := by simp [hj]
          have e2 : D.getD i 0 = D[i] := by simp [hi']
          rw [e1, e2] at h
          exact (up_inj HD.out hj hi' h).symm
      have q1 := cv wr hb
      have hkI : (k : Int) < (n : Int) := by omega
      have hjI : (j : Int) < (D.length : Int) := by omega
      have hsz := hb.size
      obtain ⟨ej, hej⟩ : ∃ ej, expL vs ks D k j = ej := ⟨_, rfl⟩
      obtain ⟨vj, hvj⟩ : ∃ vj, v j = vj := ⟨_, rfl⟩
      have hcell := HX.out.cells j hj
      have hownj := HX.out.own j hj
      rw [hej] at hownj
      have hejl : ej.length ≤ k := by rw [← hej]; exact expL_len vs ks D k j
      have hl3 := intV_len ej
      rw [hvj] at hcell hownj
      obtain ⟨q3, q4⟩ := hcell
      have hbA := hb.alloc hsz (.cells #[.int .i64 xv] 3)
      have q5 := cv _ hbA
      have hgelt := HX.out.lt
      have q6 : (wr.alloc (.cells #[.int .i64 xv] 3)).cell? ⟨ge, j, none⟩ = some vj := by rw [alloc_eq_grow, cell?_grow _ _ _ hgelt]; exact q3
      have HEJ : Hid (expL vs ks D k j = ej) := hej
      have HVJ : Hid (v j = vj) := hvj
      have HOWN : Hid (wr.ownsRow w2.heap.size 3 1 vj ej.length (intV ej)) := hownj
      have HBA : Hid _ := hbA
      have HMID : Hid (∀ w3 : World, (wr.alloc (.cells #[.int .i64 xv] 3)).grownBy w3 vj.ownBlock → w3.cell? ⟨ge, j, none⟩ = some vj ∧ w3.frozen? ⟨ge, j, none⟩ = false) := fun w3 hg => by
        have := XS.mid HX.out hj (w3 := w3) (x0 := xv) (by rw [hvj]; exact hg)
        rw [hvj] at this
        exact this
      clear g1' g2' hkv2 hje cv hkeq hxv hej hvj hownj hbA hl3
      go_wp2_with (go_at_call 22; refine HSC.out.mono ?_; rintro e w' ⟨rfl, rfl⟩)
      go_region_law (refine step_appendI w2.heap.size wr vj ej.length (intV ej) xv HOWN.out hsz (by omega) rfl (.tmp 56) (.tmp 61) rfl (by simp [Act.eval]) (by simp [Act.eval]) ?_; intro g cap3 w3 hown3 hgrow hat; obtain ⟨f7, f8⟩ := HMID.out w3 hgrow; have hb3 : Below w2.heap.size w2 w3 := HBA.out.grown hgrow HBA.out.size (fun q hq => (HOWN.out.lt q hq).1))
      all_goals
        have HX2 : Hid (XS w2.heap.size D.length ge (w3.setCell ⟨ge, j, none⟩ (.slice (some ⟨g, 0, none⟩) (ej.length + 1) cap3)) (fun i => if i = j then .slice (some ⟨g, 0, none⟩) (ej.length + 1) cap3 else v i) (expL vs ks D (k + 1))) := by
          have h := XS.step (w3 := w3) (g := g) (cap := cap3) (x0 := xv) HX.out hj (by rw [HVJ.out]; exact hgrow) (by rw [HEJ.out]; exact hown3) (by rw [HVJ.out]; exact hat)
          rw [HEJ.out] at h
          refine ⟨h.lt, h.cells, fun i hi' => ?_, h.away, h.apart⟩
          have h2 := h.own i hi'
          rw [HE.out i hi', HEJ.out]
          exact h2
        have hb4 : Below w2.heap.size w2 (w3.setCell ⟨ge, j, none⟩ (.slice (some ⟨g, 0, none⟩) (ej.length + 1) cap3)) := hb3.setCell (by exact hge2) _
        clear hown3 hgrow hat hb3
        go_wp2
        go_roundw
        case rel => exact ⟨k + 1, _, by go_num, by omega, HX2, hb4⟩
        case measure => simp [intOf]; omega
    · obtain rfl : k = n := by omega
      have hbw := hb12.trans (hb.mono hb12.size)
      have rv4 := rv.below (Nat.le_refl _) hb
      have rk4 := rk.below (Nat.le_refl _) hb
      obtain ⟨wS, hwS⟩ : ∃ wS, wS = wr := ⟨_, rfl⟩
      subst hwS
      clear rD rv rk hb hb12
      go_wp2_with fail
      have hT1 := toAny_any a cap vs wS (by rw [HV.out]; omega) rv4
      rw [HV.out] at hT1
      refine hT1.mono ?_
      rintro e w5 ⟨a5, c5, n5, hn5, rfl, hown5, hb5, _⟩
      rw [anyI_len, HV.out] at hn5
      have hn5' := hn5.symm
      clear hn5
      subst hn5'
      have r5 : Row w5 a5 (anyI vs) := made_row (by rw [anyI_len, HV.out]) hown5
      have rk5 := rk4.below (Nat.le_refl _) hb5
      clear hown5 hT1 rk4
      go_wp2_with fail
      have hT2 := toAny_any b cap2 ks w5 (by rw [HK.out]; omega) rk5
      rw [HK.out] at hT2
      refine hT2.mono ?_
      rintro e w6 ⟨a6, c6, n6, hn6, rfl, hown6, hb6, _⟩
      rw [anyI_len, HK.out] at hn6
      have hn6' := hn6.symm
      clear hn6
      subst hn6'
      have r6 : Row w6 a6 (anyI ks) := made_row (by rw [anyI_len, HK.out]) hown6
      have r5' := r5.below (Nat.le_refl _) hb6
      have hb56 := hb5.trans (hb6.mono hb5.size)
      clear hown6 hT2 r5 hb6 rk5 hb5
      go_wp2_with fail
      refine (zzGroupBy_any a5 a6 c5 c6 k vs ks w6 HV.out HK.out (by omega) r5' r6).mono ?_
      rintro e w7 ⟨go, capo, m, C, d, hs2, hp2, hm, rfl, ro7, hCg, hC7, hb7⟩
      have hCE := hCg.trans (groups_exp HK.out hs2 hp2 HD.out HM.out)
      have hCl : C.length = D.length := by
        have := congrArg List.length hCE
        simpa using this
      have HCE : Hid (∀ (j : Nat) (hj : j < C.length), C[j].l = expL vs ks D k j) := fun j hj => by
        have := List.getElem_of_eq hCE (i := j) (by simpa using hj)
        simpa using this
      have hb57 := hb56.trans (hb7.mono hb56.size)
      have hmD : m = D.length := hm.trans hCl
      have HCL : Hid (C.length = D.length) := hCl
      have HC7 : Hid (∀ x ∈ C, Reads w7 x.g (anyI x.l)) := hC7
      have HRO : Hid (Reads w7 go (C.map Grp.val)) := ro7
      subst hmD
      have hneD : ((D.length : Int) != (D.length : Int)) = false := by simp
      have hbw7 := hbw.trans (hb57.mono hbw.size)
      clear hm hs2 hp2 hCg hCE hCl hC7 ro7 hb56 hb7 r5' r6
      go_wp2
      go_loopg [11] (D.length) (fun gk v11 wr => ∃ j : Nat, v11 = .int .i64 j ∧ j ≤ D.length ∧ D.length - j ≤ gk ∧ Below w7.heap.size w7 wr)
      case atStart => exact ⟨0, rfl, by omega, by omega, Below.refl _ _⟩
      case round =>
        obtain ⟨j, rfl, hj, hgk, hb⟩ := hrel
        by_cases hlt2 : j < D.length
        · have hjC : j < C.length := by rw [HCL.out]; exact hlt2
          obtain ⟨c, hc⟩ : ∃ c, C[j] = c := ⟨_, rfl⟩
          have hcC : c ∈ C := by rw [← hc]; exact List.getElem_mem hjC
          have hrc := (HC7.out c hcC)
          have q1 : wr.cell? ⟨go, j, none⟩ = some (.iface 25 (.slice (some ⟨c.g, 0, none⟩) c.l.length c.cap)) := by
            rw [hb.cell (p := ⟨go, j, none⟩) HRO.out.1]
            exact HRO.out.2 j _ (by rw [List.getElem?_map, List.getElem?_eq_getElem hjC, hc]; rfl)
          have rc : Row wr (some ⟨c.g, 0, none⟩) (anyI c.l) := hrc.row.below (Nat.le_refl _) hb
          have hce : c.l = expL vs ks D k j := by rw [← hc]; exact HCE.out j hjC
          have hcl : c.l.length ≤ k := by rw [hce]; exact expL_len vs ks D k j
          have HCe : Hid (c.l = expL vs ks D k j) := hce
          have HF : Hid (Calls Tryz.prog 19 _ wr _) := fromAny_any (some ⟨c.g, 0, none⟩) c.cap c.l wr (by omega) rc
          have hownj := HX.out.own j hlt2
          obtain ⟨aj, cj, hvj, rj⟩ := own_slice hownj
          have hcellj := (HX.out.cells j hlt2).1
          rw [hvj, ← hce] at hcellj
          rw [← hce] at rj
          have hgelt := HX.out.lt
          have hbS : Below wS.heap.size wS wr := hb57.trans (hb.mono hb57.size)
          have HCJ : Hid (∀ w', Below wS.heap.size wS w' → w'.cell? ⟨ge, j, none⟩ = some (.slice aj c.l.length cj) ∧ Row w' aj (intV c.l)) := fun w' h =>
            ⟨(h.cell (p := ⟨ge, j, none⟩) hgelt).trans hcellj, rj.below (Nat.le_refl _) h⟩
          have hjI : (j : Int) < (D.length : Int) := by omega
          clear hc hcC hrc rc hce hownj hvj rj hcellj
          go_wp2_with (go_at_call 19; refine HF.out.mono ?_; rintro e w9 ⟨a9, c9, rfl, r9, hb9⟩; obtain ⟨f1, f2⟩ := HCJ.out w9 (hbS.trans (hb9.mono hbS.size)); have HQ : Hid (Calls Tryz.prog 20 #[.slice a9 c.l.length c9, .slice aj c.l.length cj] w9 fun e w' => e = .returned (.bool true) ∧ Drawn w9 w') := equalInts_any a9 aj c9 cj c.l c.l w9 (by omega) r9 f2 rfl)
          refine HQ.out.mono ?_
          rintro e w10 ⟨rfl, hd⟩
          have hb10 : Below w7.heap.size w7 w10 := hb.trans ((hb9.mono hb.size).trans (hd.below _))
          clear HQ f1 f2 r9 hb9 HCJ HF hbS q1
          go_wp2
          go_roundg (D.length - (j + 1))
          case measure => omega
          case rel => exact ⟨j + 1, by go_num, by omega, Nat.le_refl _, hb10⟩
        · go_wp2
          go_ret
          exact ⟨rfl, hbw7.trans (hb.mono hbw7.size)⟩
end Go.Proofs.YtheochfpidahmaaGreatDoor
