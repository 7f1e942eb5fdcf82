/-
  sort's stable_func by its contract, and sort.SliceStable at every length: the row ends sorted by key, equal keys in the order in which they stood; over any program that has the library's text.
-/
import Derived.Test.YtheochfpidahmaaGreatDoorSymG
namespace Go.Proofs.YtheochfpidahmaaGreatDoor
open Go Go.Shelf Go.RowKit Go.Lib Go.Sort Go.Proofs
variable {P : Program} {ρ : Ren}

theorem Kept.sortWorld (enc : Nat → Value) (W : World) (blk off n : Nat) (d : Array Nat) (os : Array Obj) : Kept blk W (sortWorld enc W blk off n d os) := by
  unfold Go.Proofs.sortWorld
  refine ⟨by rw [size_grow, Go.Sort.size_putRow]; exact Nat.le_add_right _ _, fun p h1 h2 => ?_⟩
  rw [cell?_grow _ _ _ (by rw [Go.Sort.size_putRow]; exact h1), cell?_putRow_other _ _ _ _ _ _ (.inl h2)]
  rfl

theorem insertion_w (L : LaysGt.n29 P ρ) {enc : Nat → Value} {K : Nat → Int} {g : Nat} {lb : Array Value} {sf : Nat} {sb : Array Value} {w0 : World} {blk off : Nat} {d0 : Array Nat} (E : Env P enc w0 blk off d0 sf sb)
    (eg : ∀ args w, (callFunc g args).run P w = .ok (.enter g args) w) (hless : LessReads P g lb enc (ltK K) blk off d0.size w0)
    (d : Array Nat) (hd : d.size = d0.size) (W : World) (hS : SW enc w0 blk off d W) (a b : Nat) (hab : a ≤ b) (hb : b ≤ d.size) (hid : ∀ t, a ≤ t → t < b → d[t]! = t) :
    Calls P (ρ.f 29) #[.agg #[.func (.func g) #[] lb, .func (.func sf) #[] sb], .int .i64 a, .int .i64 b] W (Leaves enc w0 blk off W fun d' => d'.size = d.size ∧ SortedIn (tlK K) a b d' ∧ PermAll a b d d') := by
  have hsz := E.small
  have hH := hS.holds E.lt E.holds hd
  have hl : LessReads P g lb enc (ltK K) blk off d.size W := by
    have := hS.lessReads hless E.lt hd
    rw [hd]; exact this
  have hsw : SwapSwaps P sf sb enc blk off d.size := by rw [hd]; exact E.swap
  have hc : Calls P (ρ.f 29) _ W _ := Any.insertionSort_func_w L.elder enc (ltK K) g lb sf sb blk off a b d W eg hl hsw hH (hS.lt E.lt) hab hb (by omega)
  refine hc.mono ?_
  rintro e w' ⟨rfl, n, os, rfl⟩
  have hh := insertionSort_holds (swo_tl K) d a b hab hb
  rw [← insertion_eq K a b d hb hid] at hh
  exact ⟨rfl, _, ⟨hh.1.1, hh.2, fun lo hi h1 h2 h3 => permIn_mono d _ a b lo hi h1 h2 h3 hh.1⟩, hS.on E.lt n _ os hh.1.1, Kept.sortWorld enc W blk off n _ os⟩

set_option maxHeartbeats 8000000 in
set_option maxRecDepth 100000 in
theorem stable_w (L : LaysGt.n15 P ρ) {enc : Nat → Value} {K : Nat → Int} {g : Nat} {lb : Array Value} {sf : Nat} {sb : Array Value} {w0 : World} {blk off : Nat} {d0 : Array Nat} (E : Env P enc w0 blk off d0 sf sb)
    (eg : ∀ args w, (callFunc g args).run P w = .ok (.enter g args) w) (hless : LessReads P g lb enc (ltK K) blk off d0.size w0)
    (d : Array Nat) (hd : d.size = d0.size) (W : World) (hS : SW enc w0 blk off d W) (hid : ∀ t, t < d.size → d[t]! = t) :
    Calls P (ρ.f 15) #[.agg #[.func (.func g) #[] lb, .func (.func sf) #[] sb], .int .i64 d.size] W (Leaves enc w0 blk off W fun d' => d'.size = d.size ∧ SortedIn (tlK K) 0 d.size d' ∧ PermAll 0 d.size d d') := by
  have mixed := L.mixed; have t0 := L.t0; have a0 := L.a0; have z0 := L.z0; have v0 := L.v0; have t3 := L.t3; have a3 := L.a3; have z3 := L.z3; have v3 := L.v3; have t4 := L.t4; have a4 := L.a4; have z4 := L.z4; have v4 := L.v4; have t26 := L.t26; have a26 := L.a26; have z26 := L.z26; have v26 := L.v26; have t38 := L.t38; have a38 := L.a38; have z38 := L.z38; have v38 := L.v38; have t42 := L.t42; have a42 := L.a42; have z42 := L.z42; have v42 := L.v42; have t47 := L.t47; have a47 := L.a47; have z47 := L.z47; have v47 := L.v47
  have u42 := run_underlying L.t42
  have e29 : ∀ args w, (callFunc (ρ.f 29) args).run P w = .ok (.enter (ρ.f 29) args) w := enters_of L.f29 (by kernel_rfl) rfl
  have e30 : ∀ args w, (callFunc (ρ.f 30) args).run P w = .ok (.enter (ρ.f 30) args) w := enters_of L.f30 (by kernel_rfl) rfl
  have LI : LaysGt.n29 P ρ := { L with }
  have LM : LaysGt.n30 P ρ := { L with }
  have hsz := E.small
  have hltW := hS.lt E.lt
  obtain ⟨n, hn⟩ : ∃ n, d.size = n := ⟨_, rfl⟩
  have hdn : d0.size = n := hd.symm.trans hn
  rw [hn] at hid ⊢
  have HID : Hid (∀ t, t < n → d[t]! = t) := hid
  have INS : Hid (∀ (dk : Array Nat) (wk : World) (a b : Nat), dk.size = n → SW enc w0 blk off dk wk → a ≤ b → b ≤ n → (∀ t, a ≤ t → t < b → dk[t]! = t) → Calls P (ρ.f 29) #[.agg #[.func (.func g) #[] lb, .func (.func sf) #[] sb], .int .i64 a, .int .i64 b] wk (Leaves enc w0 blk off wk fun d' => d'.size = dk.size ∧ SortedIn (tlK K) a b d' ∧ PermAll a b dk d')) :=
    fun dk wk a b h1 h2 h3 h4 h5 => insertion_w LI E eg hless dk (h1.trans hdn.symm) wk h2 a b h3 (by omega) h5
  have MER : Hid (∀ (dk : Array Nat) (wk : World) (a m b : Nat), dk.size = n → SW enc w0 blk off dk wk → a < m → m < b → b ≤ n → Seg K dk a m → Seg K dk m b → Calls P (ρ.f 30) #[.agg #[.func (.func g) #[] lb, .func (.func sf) #[] sb], .int .i64 a, .int .i64 m, .int .i64 b] wk (Leaves enc w0 blk off wk fun d' => d'.size = dk.size ∧ SortedIn (tlK K) a b d' ∧ PermAll a b dk d')) :=
    fun dk wk a m b h1 h2 h3 h4 h5 h6 h7 => symMerge_w LM E eg hless (b - a + 1) dk wk a m b (h1.trans hdn.symm) h2 h3 h4 (by omega) (by omega) h6.1 h7.1 (h6.ahead h7)
  clear hid hless
  go_enter L.f15, BodyGt.n15_ntmps ρ
  go_wp2
  go_loopw [5, 6] (fun va vb wr => ∃ (a : Nat) (dk : Array Nat), va = .int .i64 a ∧ vb = .int .i64 ((a : Int) + 20) ∧ a ≤ n ∧ dk.size = n ∧ Hid (Pre K dk 20 a) ∧ Hid (∀ t, a ≤ t → dk[t]! = d[t]!) ∧ Hid (PermAll 0 n d dk) ∧ Now enc w0 blk off W g lb sf sb dk wr)
    (fun va _ _ => n - (intOf va).toNat)
  case atStart => exact ⟨0, d, rfl, rfl, by omega, hn, .nil, fun _ _ => rfl, PermAll.refl 0 n d, Now.start hS _⟩
  case round =>
    obtain ⟨a, dk, rfl, rfl, han, hsk, HPre, HSame, HP, hN⟩ := hrel
    have hc0 := hN.c0
    have hc1 := hN.c1
    by_cases hlt : a + 20 ≤ n
    · have hcall := INS.out dk wr a (a + 20) hsk hN.sw (by omega) hlt (fun t h1 h2 => (HSame.out t h1).trans (HID.out t (by omega)))
      rw [show ((a + 20 : Nat) : Int) = (a : Int) + 20 by omega] at hcall
      have HC : Hid (Calls P (ρ.f 29) _ wr _) := hcall
      clear hcall
      go_wp2_with (go_at_fn (ρ.f 29); refine HC.out.mono ?_; rintro e w2 ⟨rfl, d2, ⟨q1, q2, q3⟩, hS2, hK2⟩)
      have hp : PermIn a (a + 20) dk d2 := q3 a (a + 20) (Nat.le_refl _) (Nat.le_refl _) (by omega)
      have HSeg : Hid (Seg K d2 a (a + 20)) := ⟨q2, permIn_all dk d2 a (a + 20) (fun v => a ≤ v ∧ v < a + 20) (by omega) hp fun t h1 h2 => by rw [HSame.out t h1, HID.out t (by omega)]; exact ⟨h1, h2⟩⟩
      have HPre2 : Hid (Pre K d2 20 (a + 20)) := (HPre.out.frame fun t h => hp.2.1 t (.inl h)).snoc HSeg.out
      have HSame2 : Hid (∀ t, a + 20 ≤ t → d2[t]! = d[t]!) := fun t h => (hp.2.1 t (.inr h)).trans (HSame.out t (by omega))
      have HP2 : Hid (PermAll 0 n d d2) := HP.out.trans (hsk.trans hn.symm) (q3.mono (by omega) hlt)
      have hN2 := hN.next hltW hS2 hK2
      have hs2 : d2.size = n := q1.trans hsk
      clear hp q2 q3 HC hN HSeg
      go_wp2
      go_roundw
      case rel => exact ⟨a + 20, d2, by congr 1, by congr 1, by omega, hs2, HPre2, HSame2, HP2, hN2⟩
      case measure => simp [intOf]; omega
    · have HC : Hid (Calls P (ρ.f 29) _ wr _) := INS.out dk wr a n hsk hN.sw han (Nat.le_refl _) (fun t h1 h2 => (HSame.out t h1).trans (HID.out t (by omega)))
      go_wp2_with (go_at_fn (ρ.f 29); refine HC.out.mono ?_; rintro e w2 ⟨rfl, d2, ⟨q1, q2, q3⟩, hS2, hK2⟩)
      have hp : PermIn a n dk d2 := q3 a n (Nat.le_refl _) (Nat.le_refl _) (by omega)
      have hSeg : Seg K d2 a n := ⟨q2, permIn_all dk d2 a n (fun v => a ≤ v ∧ v < n) (by omega) hp fun t h1 h2 => by rw [HSame.out t h1, HID.out t (by omega)]; exact ⟨h1, h2⟩⟩
      have HSegs : Hid (Segs K d2 20 n 0) := by
        refine Pre.join (by omega) (HPre.out.frame fun t h => hp.2.1 t (.inl h)) han ?_
        by_cases h : a < n
        · exact .step h (by rw [show min (a + 20) n = n by omega]; exact hSeg) (.done (by omega))
        · exact .done (by omega)
      have HP2 : Hid (PermAll 0 n d d2) := HP.out.trans (hsk.trans hn.symm) (q3.mono (by omega) (Nat.le_refl _))
      have hN2 := hN.next hltW hS2 hK2
      have hs2 : d2.size = n := q1.trans hsk
      clear hp q1 q2 q3 HC hN HPre HSame HP hSeg hc0 hc1 hS2 hK2
      go_wp2
      go_loopw [4] (fun vs wr => ∃ (bs : Nat) (dk : Array Nat), vs = .int .i64 bs ∧ 20 ≤ bs ∧ bs ≤ 2 * n + 20 ∧ dk.size = n ∧ Hid (Segs K dk bs n 0) ∧ Hid (PermAll 0 n d dk) ∧ Now enc w0 blk off W g lb sf sb dk wr)
        (fun vs _ => n - (intOf vs).toNat)
      case atStart => exact ⟨20, d2, rfl, by omega, by omega, hs2, HSegs, HP2, hN2⟩
      case round =>
        clear hN2 HP2 HSegs hs2
        obtain ⟨bs, dk, rfl, hbs, hbs2, hsk, HSegs, HP, hN⟩ := hrel
        by_cases hgo : bs < n
        · go_wp2
          go_loopw [5, 6] (fun va vb wr => ∃ (a : Nat) (dk : Array Nat), va = .int .i64 a ∧ vb = .int .i64 ((a : Int) + 2 * (bs : Int)) ∧ a ≤ n ∧ dk.size = n ∧ Hid (Pre K dk (bs + bs) a) ∧ Hid (Segs K dk bs n a) ∧ Hid (PermAll 0 n d dk) ∧ Now enc w0 blk off W g lb sf sb dk wr)
            (fun va _ _ => n - (intOf va).toNat)
          case atStart => exact ⟨0, dk, rfl, by congr 1; omega, by omega, hsk, .nil, HSegs, HP, hN⟩
          case round =>
            clear hN HP HSegs hsk
            obtain ⟨a, dk, rfl, rfl, han, hsk, HPre, HSegs, HP, hN⟩ := hrel
            have hc0 := hN.c0
            have hc1 := hN.c1
            by_cases hle : a + bs + bs ≤ n
            · obtain ⟨t1, t2, t3⟩ := HSegs.out.two (by omega)
              rw [show min (a + bs + bs) n = a + bs + bs by omega] at t2
              have hcall := MER.out dk wr a (a + bs) (a + bs + bs) hsk hN.sw (by omega) (by omega) hle t1 t2
              rw [show ((a + bs + bs : Nat) : Int) = (a : Int) + 2 * (bs : Int) by omega, show ((a + bs : Nat) : Int) = (a : Int) + (bs : Int) by omega] at hcall
              have HC : Hid (Calls P (ρ.f 30) _ wr _) := hcall
              have T1 : Hid (Seg K dk a (a + bs)) := t1
              have T2 : Hid (Seg K dk (a + bs) (a + bs + bs)) := t2
              have T3 : Hid (Segs K dk bs n (a + bs + bs)) := t3
              have hdec : decide ((a : Int) + 2 * (bs : Int) ≤ (n : Int)) = true := decide_eq_true (by omega)
              clear hcall t1 t2 t3
              go_wp2_with (go_at_fn (ρ.f 30); refine HC.out.mono ?_; rintro e w2 ⟨rfl, d2, ⟨q1, q2, q3⟩, hS2, hK2⟩)
              have hp : PermIn a (a + bs + bs) dk d2 := q3 a (a + bs + bs) (Nat.le_refl _) (Nat.le_refl _) (by omega)
              have HSegs2 : Hid (Segs K d2 bs n (a + bs + bs)) := T3.out.frame fun t h => hp.2.1 t (.inr h)
              have HPre2 : Hid (Pre K d2 (bs + bs) (a + bs + bs)) := by
                have := (HPre.out.frame fun t h => hp.2.1 t (.inl h)).snoc (s := a) (bs := bs + bs) (by rw [← Nat.add_assoc]; exact Seg.merged T1.out T2.out (by omega) (by omega) (by omega) hp q2)
                rw [← Nat.add_assoc] at this
                exact this
              have HP2 : Hid (PermAll 0 n d d2) := HP.out.trans (hsk.trans hn.symm) (q3.mono (by omega) hle)
              have hN2 := hN.next hltW hS2 hK2
              have hs2 : d2.size = n := q1.trans hsk
              clear hp q1 q2 q3 HC hN HPre HSegs HP T1 T2 T3 hS2 hK2
              go_wp2
              go_roundw
              case rel => exact ⟨a + bs + bs, d2, by congr 1; omega, by congr 1; omega, hle, hs2, HPre2, HSegs2, HP2, hN2⟩
              case measure => simp [intOf]; omega
            · have hdec : decide ((a : Int) + 2 * (bs : Int) ≤ (n : Int)) = false := decide_eq_false (by omega)
              have J : ∀ d2 : Array Nat, Pre K d2 (bs + bs) a → (a < n → Seg K d2 a n) → Segs K d2 (bs + bs) n 0 := fun d2 h1 h2 => by
                refine Pre.join (by omega) h1 han ?_
                by_cases h : a < n
                · exact .step h (by rw [show min (a + (bs + bs)) n = n by omega]; exact h2 h) (.done (by omega))
                · exact .done (by omega)
              have HJ : Hid _ := J
              clear J
              by_cases hm : a + bs < n
              · obtain ⟨t1, t2, _⟩ := HSegs.out.two hm
                rw [show min (a + bs + bs) n = n by omega] at t2
                have hcall := MER.out dk wr a (a + bs) n hsk hN.sw (by omega) hm (Nat.le_refl _) t1 t2
                rw [show ((a + bs : Nat) : Int) = (a : Int) + (bs : Int) by omega] at hcall
                have HC : Hid (Calls P (ρ.f 30) _ wr _) := hcall
                have T1 : Hid (Seg K dk a (a + bs)) := t1
                have T2 : Hid (Seg K dk (a + bs) n) := t2
                have hdec2 : decide ((a : Int) + (bs : Int) < (n : Int)) = true := decide_eq_true (by omega)
                clear hcall t1 t2
                go_wp2_with (go_at_fn (ρ.f 30); refine HC.out.mono ?_; rintro e w2 ⟨rfl, d2, ⟨q1, q2, q3⟩, hS2, hK2⟩)
                have hp : PermIn a n dk d2 := q3 a n (Nat.le_refl _) (Nat.le_refl _) (by omega)
                have HSegs2 : Hid (Segs K d2 (bs + bs) n 0) := HJ.out d2 (HPre.out.frame fun t h => hp.2.1 t (.inl h)) fun _ => Seg.merged T1.out T2.out (by omega) (by omega) (by omega) hp q2
                have HP2 : Hid (PermAll 0 n d d2) := HP.out.trans (hsk.trans hn.symm) (q3.mono (by omega) (Nat.le_refl _))
                have hN2 := hN.next hltW hS2 hK2
                have hs2 : d2.size = n := q1.trans hsk
                clear hp q1 q2 q3 HC hN HPre HSegs HP T1 T2 HJ hS2 hK2
                go_wp2
                go_roundw
                case rel => exact ⟨bs + bs, d2, by congr 1; omega, by omega, by omega, hs2, HSegs2, HP2, hN2⟩
                case measure => simp [intOf]; omega
              · have hdec2 : decide ((a : Int) + (bs : Int) < (n : Int)) = false := decide_eq_false (by omega)
                have HSegs2 : Hid (Segs K dk (bs + bs) n 0) := HJ.out dk HPre.out fun h => HSegs.out.one h (by omega)
                clear HPre HSegs HJ
                go_wp2
                go_roundw
                case rel => exact ⟨bs + bs, dk, by congr 1; omega, by omega, by omega, hsk, HSegs2, HP, hN⟩
                case measure => simp [intOf]; omega
        · go_wp2
          go_end0
          refine ⟨rfl, dk, ⟨hsk, ?_, HP.out⟩, hN.sw, hN.kept⟩
          by_cases h0 : 0 < n
          · exact (HSegs.out.one h0 (by omega)).1
          · exact fun i j _ _ h => by omega
/-- **sort.SliceStable AT 2 OR MORE ELEMENTS OF ONE CELL.** -/
theorem sliceStable_w (L : LaysGt.n8 P ρ) (t e : TypeId) (i ie : TypeInfo) (hi : P.info? t = some i) (hd : i.desc = .slice e) (hpk : P.packed t = false) (hie : P.info? e = some ie) (ke : Nat) (hke : ∀ w, (Extern.Rtype.kind e).run P w = .ok ke w)
    (hs1 : ie.size = 1) (hagg : ∀ w, (isAgg e).run P w = .ok false w) (enc : Nat → Value) (h1 : ∀ x, (enc x).oneCell' = true) (K : Nat → Int) (g : Nat) (lb : Array Value)
    (eg : ∀ args w, (callFunc g args).run P w = .ok (.enter g args) w) (blk off c : Nat) (d : Array Nat) (h2 : 2 ≤ d.size) (hsz : d.size < 4611686018427387904) (hid : ∀ t, t < d.size → d[t]! = t)
    (f : Nat) (hf : P.funcs.findIdx? (·.name == "internal/reflectlite" ++ ".Swapper$" ++ toString (swapperK d.size ie ke)) = some f)
    (gS : Bool) (hx : ∀ args W, (callFunc f args).run P W = ((Extern.ReflectliteSwapper.swap gS args).run P W).andThen fun v w' => .ok (.value v) w')
    (w : World) (hless : LessReads P g lb enc (ltK K) blk off d.size w) (hH : Holds enc w blk off d) (hblk : blk < w.heap.size) :
    Calls P (ρ.f 8) #[.iface t (.slice (some ⟨blk, off, none⟩) d.size c), .func (.func g) #[] lb] w fun e w' =>
      e = .returned (.tuple #[]) ∧ ∃ d' n os, SortedIn (tlK K) 0 d.size d' ∧ PermIn 0 d.size d d' ∧ w' = grow (putRow enc (Sort.ahead w n) blk off d') os := by
  refine Any.sort_SliceStable_of_stable L t e i ie hi hd hpk hie ke hke _ d.size c hsz f hf (.func g) #[] lb w _ ?_
  have hB : sliceBound P e ie ke (some ⟨blk, off, none⟩) d.size c = #[.slice (some ⟨blk, off, none⟩) d.size c, typeHandle P e] := by
    unfold sliceBound; rw [if_neg (swapperK_gt _ _ _ h2)]
  have hW : stableWorld P ρ t (some ⟨blk, off, none⟩) d.size c w = grow w #[.cells #[.slice (some ⟨blk, off, none⟩) d.size c] t, .cells #[.pointer (some ⟨P.globals.size, t, none⟩), .pointer (some ⟨w.heap.size, 0, none⟩), .int .u64 151] (ρ.t 36)] := by
    unfold stableWorld; rw [alloc_eq_grow, alloc_eq_grow, grow_grow]; rfl
  generalize (#[.cells #[.slice (some ⟨blk, off, none⟩) d.size c] t, .cells #[.pointer (some ⟨P.globals.size, t, none⟩), .pointer (some ⟨w.heap.size, 0, none⟩), .int .u64 151] (ρ.t 36)] : Array Obj) = os0 at hW
  rw [hB, hW]
  have hHg := holds_grow enc w os0 blk off d hblk hH
  have hlg : blk < (grow w os0).heap.size := by rw [size_grow]; omega
  have E : Env P enc (grow w os0) blk off d f #[.slice (some ⟨blk, off, none⟩) d.size c, typeHandle P e] :=
    ⟨hHg, hlg, swapSwaps_of_literal gS f hx e ie hie hs1 hagg enc h1 blk off d.size c, hsz⟩
  have hp := stable_w (P := P) (ρ := ρ) { L with } E eg (hless.grow hblk os0) d rfl (grow w os0) (SW.start hHg) hid
  refine hp.mono ?_
  rintro e w' ⟨rfl, d', ⟨q1, q2, q3⟩, ⟨n, os, rfl⟩, _⟩
  refine ⟨rfl, d', n, os0 ++ os, q2, q3 0 d.size (Nat.le_refl _) (Nat.le_refl _) (Nat.le_refl _), ?_⟩
  unfold sortWorld
  rw [ahead_grow, putRow_grow enc (Sort.ahead w n) _ blk off _ hblk, grow_grow]
#print axioms sliceStable_w
end Go.Proofs.YtheochfpidahmaaGreatDoor
