/-
  FnUniqueByAgreesWithGroupByHeads: the law's walk (folder n001_68).
-/
import Derived.Test.YtheochfpidahmaaGreatDoorHeadsLaw
namespace Go.Proofs.YtheochfpidahmaaGreatDoor
open Go Go.RowKit Go.Sort

theorem perm_up_eq {a b c d : List Int} (h1 : Up a) (h2 : a.Perm b) (h3 : Up c) (h4 : c.Perm d) (h : b.Perm d) : a = c := up_perm_eq h1 h3 (h2.trans (h.trans h4.symm))

set_option maxRecDepth 100000 in
set_option maxHeartbeats 6400000 in
theorem law_FnUniqueByAgreesWithGroupByHeads (a : Option Addr) (cap : Nat) (vs : List Int) (b : Option Addr) (cap2 : Nat) (ks : List Int) (w : World) (hl : vs.length ≤ 140737488351232) (_ha : a = none → vs = []) (_hcap : a = none → cap = 0) (hrow : Row w a (intV vs))
    (hlb : ks.length ≤ 140737488351232) (_hab : b = none → ks = []) (_hcapb : b = none → cap2 = 0) (hrowb : Row w b (intV ks)) :
    Calls Tryz.prog 8 #[.slice a vs.length cap, .slice b ks.length cap2] w (Holds w) := by
  have mk := fun (x : Value) (w : World) => run_makeInterface (P := Tryz.prog) w 25 x (by kernel_rfl)
  have ha1 := fun (v : Value) (w : World) => a_arr v w
  obtain ⟨i0, hi, hz0, hz1, hz2⟩ := info_parts Tryz.infoIntS
  go_enter Tryz.func8, Tryz.ntmps8
  go_wp2_with fail
  refine (bytesH_any a b cap cap2 vs.length ks.length w hl hlb).mono ?_
  rintro e w' ⟨⟨g, rfl⟩, rfl⟩
  cases g with
  | false =>
    go_wp2
    go_ret
    exact ⟨rfl, Below.refl _ _⟩
  | true =>
  by_cases h16 : 65536 < vs.length
  · go_wp2_with fail
    go_ret
    exact ⟨rfl, Below.refl _ _⟩
  by_cases h17 : 65536 < ks.length
  · go_wp2_with fail
    go_ret
    exact ⟨rfl, Below.refl _ _⟩
  by_cases hlen : ¬ vs.length = ks.length
  · have hne : ((vs.length : Int) != (ks.length : Int)) = true := bne_iff_ne.2 (by omega)
    go_wp2_with fail
    go_ret
    exact ⟨rfl, Below.refl _ _⟩
  have hlen' : vs.length = ks.length := by omega
  obtain ⟨n, hn⟩ : ∃ n, ks.length = n := ⟨_, rfl⟩
  rw [hlen', hn]
  rw [hn] at h17
  have HV : Hid (vs.length = n) := hlen'.trans hn
  have HK : Hid (ks.length = n) := hn
  have hne : ((n : Int) != (n : Int)) = false := by simp
  clear hlen hlen' hn h16 hl hlb
  -- unique_by
  go_wp2_with fail
  have hT1 := toAny_any a cap vs w (by rw [HV.out]; omega) hrow
  rw [HV.out] at hT1
  refine hT1.mono ?_
  rintro e w1 ⟨a1, c1, n1, hn1, rfl, hown1, hb1, _⟩
  rw [anyI_len, HV.out] at hn1
  have hn1' := hn1.symm
  clear hn1
  subst hn1'
  have r1 : Row w1 a1 (anyI vs) := made_row (by rw [anyI_len, HV.out]) hown1
  have rk1 := hrowb.below (Nat.le_refl _) hb1
  clear hown1 hT1
  go_wp2_with fail
  have hT2 := toAny_any b cap2 ks w1 (by rw [HK.out]; omega) rk1
  rw [HK.out] at hT2
  refine hT2.mono ?_
  rintro e w2 ⟨a2, c2, n2, hn2, rfl, hown2, hb2, _⟩
  rw [anyI_len, HK.out] at hn2
  have hn2' := hn2.symm
  clear hn2
  subst hn2'
  have r2 : Row w2 a2 (anyI ks) := made_row (by rw [anyI_len, HK.out]) hown2
  have r1' := r1.below (Nat.le_refl _) hb2
  have hb02 := hb1.trans (hb2.mono hb1.size)
  clear hown2 hT2 r1 rk1 hb1 hb2
  go_wp2_with fail
  refine (zzUniqueBy_any a1 a2 c1 c2 n vs ks w2 HV.out HK.out (by omega) r1' r2).mono ?_
  rintro e w3 ⟨a3, m3, c3, d, hs, hp, rfl, rfl, r3, hb3⟩
  have hb03 := hb02.trans (hb3.mono hb02.size)
  obtain ⟨U, hU⟩ : ∃ U, uniqL vs ks d n = U := ⟨_, rfl⟩
  have hUl : U.length ≤ n := by rw [← hU]; exact uniqL_len vs ks d n
  rw [hU] at r3 ⊢
  have HU : Hid (uniqL vs ks d n = U) := hU
  have HSP : Hid (SortedIn (tlK (keyF ks)) 0 n d ∧ PermIn 0 n (Array.range n) d) := ⟨hs, hp⟩
  clear r1' r2 hb02 hb3 hs hp hU
  go_wp2_with fail
  refine (fromAny_any a3 c3 U w3 (by omega) r3).mono ?_
  rintro e w4 ⟨a4, c4, rfl, r4, hb4⟩
  have hb04 := hb03.trans (hb4.mono hb03.size)
  have rv4 := hrow.below (Nat.le_refl _) hb04
  have rk4 := hrowb.below (Nat.le_refl _) hb04
  clear r3 hb03 hb4 hrow hrowb
  -- group_by
  go_wp2_with fail
  have hT1 := toAny_any a cap vs w4 (by rw [HV.out]; omega) rv4
  rw [HV.out] at hT1
  refine hT1.mono ?_
  rintro e w5 ⟨a5, c5, n5, hn5, rfl, hown5, hb5, _⟩
  rw [anyI_len, HV.out] at hn5
  have hn5' := hn5.symm
  clear hn5
  subst hn5'
  have r5 : Row w5 a5 (anyI vs) := made_row (by rw [anyI_len, HV.out]) hown5
  have rv5 := rv4.below (Nat.le_refl _) hb5
  have rk5 := rk4.below (Nat.le_refl _) hb5
  have r45 := r4.below (Nat.le_refl _) hb5
  have hb05 := hb04.trans (hb5.mono hb04.size)
  clear hown5 hT1 rv4 rk4 r4 hb04 hb5
  go_wp2_with fail
  have hT2 := toAny_any b cap2 ks w5 (by rw [HK.out]; omega) rk5
  rw [HK.out] at hT2
  refine hT2.mono ?_
  rintro e w6 ⟨a6, c6, n6, hn6, rfl, hown6, hb6, _⟩
  rw [anyI_len, HK.out] at hn6
  have hn6' := hn6.symm
  clear hn6
  subst hn6'
  have r6 : Row w6 a6 (anyI ks) := made_row (by rw [anyI_len, HK.out]) hown6
  have r5' := r5.below (Nat.le_refl _) hb6
  have rv6 := rv5.below (Nat.le_refl _) hb6
  have r46 := r45.below (Nat.le_refl _) hb6
  have hb06 := hb05.trans (hb6.mono hb05.size)
  clear hown6 hT2 r5 rv5 rk5 r45 hb05 hb6
  go_wp2_with fail
  refine (zzGroupBy_any a5 a6 c5 c6 n vs ks w6 HV.out HK.out (by omega) r5' r6).mono ?_
  rintro e w7 ⟨go, capo, m, C, d2, hs2, hp2, hm, rfl, ro7, hCg, hC7, hb7⟩
  have hdd : d2 = d := order_unique hs2 hp2 HSP.out.1 HSP.out.2
  subst hdd
  have hHeads : (C.map (·.l)).map (·.head?) = U.map some := by
    rw [hCg, groups_heads, ← HU.out]
    unfold uniqL
    rw [List.map_map]
    rfl
  have hCl : C.length = U.length := by
    have := congrArg List.length hHeads
    simpa using this
  have hFlat : ((C.map (·.l)).flatten).Perm vs := by
    rw [hCg, groups_flat]
    exact order_perm HSP.out.2 vs HV.out
  have HH : Hid ((C.map (·.l)).map (·.head?) = U.map some) := hHeads
  have HFL : Hid (((C.map (·.l)).flatten).Perm vs) := hFlat
  have rv7 := rv6.below (Nat.le_refl _) hb7
  have r47 := r46.below (Nat.le_refl _) hb7
  have hb07 := hb06.trans (hb7.mono hb06.size)
  have hmU : m = U.length := hm.trans hCl
  have HCL : Hid (C.length = U.length) := hCl
  have HC7 : Hid (∀ x ∈ C, Reads w7 x.g (anyI x.l)) := hC7
  have HRO : Hid (Reads w7 go (C.map Grp.val)) := ro7
  have HMU : Hid (m = U.length) := hmU
  subst hmU
  have hneU : ((U.length : Int) != (U.length : Int)) = false := by simp
  clear hm hs2 hp2 hHeads hFlat hCg hCl hC7 ro7 rv6 r46 hb06 hb7 r5' r6
  go_wp2_with (at_make; refine wpList_make_own _ rfl _ _ 22 rfl w7.heap.size 3 i0 (.int .i64 0) 1 Tryz.underlying22 hi hz0 hz1 _ _ _ n rfl rfl rfl ?c1 ?c2 ?c3 ?_)
  case c1 => rw [hz2]; omega
  case c2 => unfold maxLen; omega
  case c3 => omega
  intro w8 hown8 hgrow8
  have hb8 : Below w7.heap.size w7 w8 := (Below.refl _ _).grown hgrow8 (Nat.le_refl _) (by intro k hk; cases hk)
  have hown8' : w8.ownsRow w7.heap.size 3 1 (.slice (some ⟨w7.heap.size, 0, none⟩) 0 n) (intV (((C.map (·.l)).take 0).flatten)).length (intV (((C.map (·.l)).take 0).flatten)) := hown8
  clear hown8 hgrow8
  go_wp2
  go_loopg [9, 10] (U.length) (fun gk v9 v10 wr => ∃ j : Nat, v10 = .int .i64 j ∧ j ≤ U.length ∧ U.length - j ≤ gk ∧ wr.ownsRow w7.heap.size 3 1 v9 (intV (((C.map (·.l)).take j).flatten)).length (intV (((C.map (·.l)).take j).flatten)) ∧ Below w7.heap.size w7 wr)
  case atStart => exact ⟨0, rfl, by omega, by omega, hown8', hb8⟩
  case round =>
    clear hown8' hb8
    obtain ⟨j, rfl, hj, hgk, hown, hb⟩ := hrel
    by_cases hlt : j < U.length
    · have hjC : j < C.length := by rw [HCL.out]; exact hlt
      obtain ⟨c, hc⟩ : ∃ c, C[j] = c := ⟨_, rfl⟩
      have hcC : c ∈ C := by rw [← hc]; exact List.getElem_mem hjC
      have hrc := (HC7.out c hcC)
      have q1 : wr.cell? ⟨go, j, none⟩ = some (.iface 25 (.slice (some ⟨c.g, 0, none⟩) c.l.length c.cap)) := by
        rw [hb.cell (p := ⟨go, j, none⟩) HRO.out.1]
        exact HRO.out.2 j _ (by rw [List.getElem?_map, List.getElem?_eq_getElem hjC, hc]; rfl)
      have rc : Row wr (some ⟨c.g, 0, none⟩) (anyI c.l) := hrc.row.below (Nat.le_refl _) hb
      -- its first value, its length
      have hhd : c.l.head? = some U[j] := by
        have := List.getElem_of_eq HH.out (i := j) (by simp; exact hjC)
        simpa [hc] using this
      have hflen : (((C.map (·.l)).take j).flatten).length + c.l.length ≤ n := by
        have h1 : ((C.map (·.l)).flatten).length = n := HFL.out.length_eq.trans HV.out
        have h2 : C.map (·.l) = (C.map (·.l)).take j ++ c.l :: (C.map (·.l)).drop (j + 1) := by
          rw [← hc]
          have := List.take_append_drop j (C.map (·.l))
          rw [List.drop_eq_getElem_cons (by simp; exact hjC), List.getElem_map] at this
          exact this.symm
        rw [h2] at h1
        rw [List.flatten_append, List.length_append, List.flatten_cons, List.length_append] at h1
        omega
      have hsucc : ((C.map (·.l)).take (j + 1)).flatten = ((C.map (·.l)).take j).flatten ++ c.l := by
        rw [List.take_succ_eq_append_getElem (by simp; exact hjC), List.flatten_append, List.getElem_map, hc]
        simp
      obtain ⟨pre, hpre⟩ : ∃ pre, ((C.map (·.l)).take j).flatten = pre := ⟨_, rfl⟩
      rw [hpre] at hown hflen hsucc
      have HSUCC : Hid (((C.map (·.l)).take (j + 1)).flatten = pre ++ c.l) := hsucc
      have HHD : Hid (c.l.head? = some U[j]) := hhd
      obtain ⟨b4, o4, rfl, hb4lt, g4⟩ := r47.at (k := j) (by rw [intV_len]; exact hlt)
      have HCU : Hid (∀ w', Below w7.heap.size w7 w' → w'.cell? ⟨b4, o4 + j, none⟩ = some (.int .i64 U[j])) := fun w' h => by
        rw [h.cell (p := ⟨b4, o4 + j, none⟩) hb4lt]
        exact g4 j _ (intV_get U hlt)
      have HF : Hid (Calls Tryz.prog 19 _ wr _) := fromAny_own (some ⟨c.g, 0, none⟩) c.cap c.l wr (by omega) rc
      have hjI : (j : Int) < (U.length : Int) := by omega
      obtain ⟨u0, hu0⟩ : ∃ u0, U[j] = u0 := ⟨_, rfl⟩
      have HCU2 : Hid (∀ w', Below w7.heap.size w7 w' → w'.cell? ⟨b4, o4 + j, none⟩ = some (.int .i64 u0)) := fun w' h => by rw [← hu0]; exact HCU.out w' h
      have HHD2 : Hid (c.l.head? = some u0) := by show _ = _; rw [← hu0]; exact HHD.out
      have hcpos : 0 < c.l.length := by
        have := HHD2.out
        cases hcl : c.l with
        | nil => rw [hcl] at this; cases this
        | cons y t => simp
      have hc0 : c.l[0]'hcpos = u0 := by
        have := HHD2.out
        rw [List.head?_eq_getElem?, List.getElem?_eq_getElem hcpos] at this
        exact Option.some.inj this
      obtain ⟨a9, cap9, hu9, _⟩ := own_slice hown
      rw [intV_len] at hu9
      subst hu9
      have HOWN : Hid (wr.ownsRow w7.heap.size 3 1 (.slice a9 pre.length cap9) (intV pre).length (intV pre)) := hown
      have HPL : Hid (pre.length + c.l.length ≤ n) := hflen
      have hlenI : ((c.l.length : Int) == 0) = false := beq_eq_false_iff_ne.2 (by omega)
      have hposI : (0 : Int) < (c.l.length : Int) := by omega
      have hfit : decide ((c.l.length : Int) > (n : Int) - (pre.length : Int)) = false := decide_eq_false (by omega)
      have HC0 : Hid (∀ h : 0 < c.l.length, c.l[0] = u0) := fun _ => hc0
      obtain ⟨wS, hwS⟩ : ∃ wS, wS = wr := ⟨_, rfl⟩
      subst hwS
      clear hc hcC hrc rc hhd hsucc hpre g4 hown hu0 hc0 HCU HHD
      go_wp2_with (go_at_call 19; refine HF.out.mono ?_; rintro e w9 ⟨gg, cg, rfl, hgg, hrg, hb9⟩)
      have hb79 : Below w7.heap.size w7 w9 := hb.trans (hb9.mono hb.size)
      have p1 := HCU2.out w9 hb79
      have p2 : w9.cell? ⟨gg, 0, none⟩ = some (.int .i64 u0) := by
        rw [hrg.2 0 _ (intV_get c.l hcpos), HC0.out hcpos]
      have hown9 : w9.ownsRow w7.heap.size 3 1 (.slice a9 pre.length cap9) (intV pre).length (intV pre) := own_below' HOWN.out hb9
      have hblk9 : (Value.slice a9 pre.length cap9).ownBlock ≠ some gg := fun h => by
        have := (HOWN.out.lt gg h).2
        omega
      have HRG : Hid (Reads w9 gg (intV c.l)) := hrg
      have HOWN9 : Hid (w9.ownsRow w7.heap.size 3 1 (.slice a9 pre.length cap9) (intV pre).length (intV pre)) := hown9
      clear hrg hown9 hb9 HF
      go_wp2_with fail
      go_quiet (fail)
      go_wp2
      go_loopw [9, 13] (fun v9 v13 wr => ∃ q : Nat, v13 = .int .i64 q ∧ q ≤ c.l.length ∧ wr.ownsRow w7.heap.size 3 1 v9 (intV (pre ++ c.l.take q)).length (intV (pre ++ c.l.take q)) ∧ v9.ownBlock ≠ some gg ∧ Reads wr gg (intV c.l) ∧ Below w7.heap.size w7 wr)
        (fun _ i _ => c.l.length - (intOf i).toNat)
      case atStart => exact ⟨0, rfl, by omega, by rw [List.take_zero, List.append_nil]; exact HOWN9.out, hblk9, HRG.out, hb79.trans ⟨rfl, rfl, rfl, Nat.le_refl _, fun _ _ => rfl⟩⟩
      case round =>
        clear HOWN9 HRG hb79 p1 p2 hblk9
        obtain ⟨q, rfl, hq, hown, hne, hrg, hbq⟩ := hrel
        by_cases hlt2 : q < c.l.length
        · obtain ⟨y, hy⟩ : ∃ y, c.l[q] = y := ⟨_, rfl⟩
          have p3 : wr.cell? ⟨gg, q, none⟩ = some (.int .i64 y) := by rw [hrg.2 q _ (intV_get c.l hlt2), hy]
          have hqI : (q : Int) < (c.l.length : Int) := by omega
          have hsz := hbq.size
          have hlq : (intV (pre ++ c.l.take q)).length ≤ 65536 := by rw [intV_len, List.length_append, List.length_take]; have := HPL.out; omega
          have HLQ : Hid ((intV (pre ++ c.l.take q)).length ≤ 65536) := hlq
          have HTK : Hid (pre ++ c.l.take (q + 1) = (pre ++ c.l.take q) ++ [y]) := by
            show _ = _
            rw [List.take_succ_eq_append_getElem hlt2, hy, List.append_assoc]
          have HRG : Hid (Reads wr gg (intV c.l)) := hrg
          clear hlq hy hrg
          go_wp2_with (at_builtin; refine wpList_append_lies _ rfl _ _ 22 rfl w7.heap.size 3 i0 (.int .i64 0) 1 8 Tryz.underlying22 hi hz0 hz1 hz2 rfl (by decide) _ _ _ rfl (hown.alloc _) ⟨wr.heap.size, 0, none⟩ 1 1 [.int .i64 y] rfl rfl (cells_new _ [.int .i64 y] _) (fun u hu => by simp at hu; subst hu; rfl) (by omega) ?_ ?_ ?_ _ rfl ?_)
          · have := HLQ.out; unfold maxLen; omega
          · have := HLQ.out; omega
          · simp; omega
          intro g' cap' w10 hown10 hgrow10 hat hlt10
          have hb10 := below_own' (hbq.alloc hsz _) (by simp; omega) (hown.alloc _) hgrow10
          have hrg10 := (HRG.out.alloc (.cells #[.int .i64 y] 3)).grown hgrow10 (fun h => hne h.symm)
          have hgl := HRG.out.1
          have hne10 : (Value.slice (some ⟨g', 0, none⟩) ((intV (pre ++ c.l.take q)).length + 1) cap').ownBlock ≠ some gg := fun h => by
            obtain rfl : g' = gg := Option.some.inj h
            rcases hat with h1 | h1
            · exact hne h1
            · first
                | omega
                | (simp at h1; omega)
          have R : w10.ownsRow w7.heap.size 3 1 (.slice (some ⟨g', 0, none⟩) ((intV (pre ++ c.l.take q)).length + 1) cap') (intV (pre ++ c.l.take (q + 1))).length (intV (pre ++ c.l.take (q + 1))) := by
            rw [HTK.out]
            have e : intV (pre ++ c.l.take q ++ [y]) = intV (pre ++ c.l.take q) ++ [.int .i64 y] := by simp only [intV, List.map_append, List.map_cons, List.map_nil]
            rw [e, List.length_append]
            exact hown10
          clear hown hown10 hgrow10 hat hbq
          go_wp2
          go_roundw
          case rel => exact ⟨q + 1, by go_num, by omega, R, hne10, hrg10, hb10⟩
          case measure => simp [intOf]; omega
        · obtain rfl : q = c.l.length := by omega
          rw [List.take_length] at hown
          have R : wr.ownsRow w7.heap.size 3 1 u9 (intV (((C.map (·.l)).take (j + 1)).flatten)).length (intV (((C.map (·.l)).take (j + 1)).flatten)) := by rw [HSUCC.out]; exact hown
          clear hown hrg
          go_wp2
          go_roundg (U.length - (j + 1))
          case measure => omega
          case rel => exact ⟨j + 1, by go_num, by omega, Nat.le_refl _, R, hbq⟩
    · obtain rfl : j = U.length := by omega
      have hall : (C.map (·.l)).take U.length = C.map (·.l) := List.take_of_length_le (by rw [List.length_map, HCL.out]; exact Nat.le_refl _)
      rw [hall] at hown
      obtain ⟨FL, hFL⟩ : ∃ FL, (C.map (·.l)).flatten = FL := ⟨_, rfl⟩
      have HP : Hid (FL.Perm vs) := by show FL.Perm vs; rw [← hFL]; exact HFL.out
      rw [hFL] at hown
      obtain ⟨a9, cap9, hu9, r9⟩ := own_slice hown
      have hFn : FL.length = n := HP.out.length_eq.trans HV.out
      rw [intV_len, hFn] at hu9
      subst hu9
      have HFn : Hid (FL.length = n) := hFn
      have rvr := rv7.below (Nat.le_refl _) hb
      have hb0 := hb07.trans (hb.mono hb07.size)
      have hS1 := sortInts_any a9 cap9 FL wr (by rw [hFn]; omega) r9
      rw [hFn] at hS1
      have HS1 : Hid (Calls Tryz.prog 25 _ wr _) := hS1
      clear hown hFn hS1 hFL hall r47 rv7 hb07 r9
      go_wp2_with fail
      refine HS1.out.mono ?_
      rintro e w10 ⟨g1, S1, rfl, hu1, hp1, rS1, hb10⟩
      rw [HFn.out]
      have rv10 := rvr.below (Nat.le_refl _) hb10
      have hb010 := hb0.trans (hb10.mono hb0.size)
      have HS1f : Hid (Up S1 ∧ S1.Perm FL) := ⟨hu1, hp1⟩
      have hS2 := sortInts_any a cap vs w10 (by rw [HV.out]; omega) rv10
      rw [HV.out] at hS2
      have HS2 : Hid (Calls Tryz.prog 25 _ w10 _) := hS2
      clear hS2 rvr hb10 hb0 hu1 hp1
      go_wp2_with fail
      refine HS2.out.mono ?_
      rintro e w11 ⟨g2, S2, rfl, hu2, hp2, rS2, hb11⟩
      rw [HV.out]
      have rS1' := rS1.below (Nat.le_refl _) hb11
      have hb011 := hb010.trans (hb11.mono hb010.size)
      have HE : Hid (S1 = S2) := perm_up_eq HS1f.out.1 HS1f.out.2 hu2 hp2 HP.out
      have hl1 : S1.length = n := HS1f.out.2.length_eq.trans HFn.out
      have hl2 : S2.length = n := hp2.length_eq.trans HV.out
      have HEQ : Hid (Calls Tryz.prog 20 #[.slice (some ⟨g1, 0, none⟩) n n, .slice (some ⟨g2, 0, none⟩) n n] w11 fun e w' => e = .returned (.bool true) ∧ Drawn w11 w') := by
        have h := equalInts_any (some ⟨g1, 0, none⟩) (some ⟨g2, 0, none⟩) n n S1 S2 w11 (by rw [hl1]; omega) rS1' rS2 HE.out
        rw [hl1, hl2] at h
        exact h
      clear rS1 rS1' rS2 hb11 hb010 hu2 hp2 hl1 hl2
      go_wp2_with fail
      refine HEQ.out.mono ?_
      rintro e w12 ⟨rfl, hd⟩
      go_wp2
      go_ret
      exact ⟨rfl, hb011.trans (hd.below _)⟩
end Go.Proofs.YtheochfpidahmaaGreatDoor
