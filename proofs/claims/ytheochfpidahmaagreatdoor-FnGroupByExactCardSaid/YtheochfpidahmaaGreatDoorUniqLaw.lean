/-
  FnUniqueSortedDistinctExact and FnUniqueIdempotent: the laws' walks (folder n001_68).
-/
import Derived.Test.YtheochfpidahmaaGreatDoorUniqP
namespace Go.Proofs.YtheochfpidahmaaGreatDoor
open Go Go.RowKit Go.Sort

theorem bytesU1_any (a : Option Addr) (c n : Nat) (w : World) (hl : n ≤ 140737488351232) :
    Calls Tryz.prog 21 #[.slice a n c] w fun e w' => SomeBool e ∧ w = w' := by
  go_enter Tryz.func21, Tryz.ntmps21
  go_wp2
  all_goals (go_ret; exact ⟨⟨_, rfl⟩, rfl⟩)
theorem bytesU2_any (a : Option Addr) (c n : Nat) (w : World) (hl : n ≤ 140737488351232) :
    Calls Tryz.prog 17 #[.slice a n c] w fun e w' => SomeBool e ∧ w = w' := by
  go_enter Tryz.func17, Tryz.ntmps17
  go_wp2
  all_goals (go_ret; exact ⟨⟨_, rfl⟩, rfl⟩)

/-- What unique makes of a row. -/
def UniqOf (xs U : List Int) : Prop := U.Pairwise (· < ·) ∧ (∀ y, y ∈ U ↔ y ∈ xs) ∧ U.length ≤ xs.length
def UniqRes (w : World) (xs : List Int) (e : Ending) (w' : World) : Prop :=
  ∃ (a : Option Addr) (cap : Nat) (U : List Int), UniqOf xs U ∧ e = .returned (.iface 25 (.slice a U.length cap)) ∧ Row w' a (anyI U) ∧ Below w.heap.size w w'

set_option maxRecDepth 100000 in
set_option maxHeartbeats 1600000 in
theorem unique_any (a : Option Addr) (c : Nat) (xs : List Int) (w : World) (hl : xs.length ≤ 1048576) (r : Row w a (anyI xs)) :
    Calls Tryz.prog 18 #[.iface 25 (.slice a xs.length c)] w (UniqRes w xs) := by
  have HC : Hid (∀ s, Calls Tryz.prog 30 _ w (UniqRes w xs)) := fun s => (uniqueBy_any s a a c c xs.length xs xs w rfl rfl hl r r).mono fun e w' ⟨a', m, cap, d, hs, hp, hm, he, hr, hb⟩ =>
    ⟨a', cap, _, ⟨uniq_up rfl hs hp, uniq_mem rfl hs hp, uniqL_len xs xs d xs.length⟩, by rw [he, hm], hr, hb⟩
  go_enter Tryz.func18, Tryz.ntmps18
  go_wp2_with (first | (go_at_call 30; refine (HC.out _).mono ?_; rintro e w' ⟨a', cap, U, hU, rfl, hr, hb⟩) | go_in)
  go_ret
  exact ⟨a', cap, U, hU, rfl, hr, hb⟩

set_option maxRecDepth 100000 in
set_option maxHeartbeats 1600000 in
theorem law_FnUniqueIdempotent (a : Option Addr) (cap : Nat) (xs : List Int) (w : World) (hl : xs.length ≤ 140737488351232) (_ha : a = none → xs = []) (_hcap : a = none → cap = 0) (hrow : Row w a (intV xs)) :
    Calls Tryz.prog 5 #[.slice a xs.length cap] w (Holds w) := by
  have mk := fun (x : Value) (w : World) => run_makeInterface (P := Tryz.prog) w 25 x (by kernel_rfl)
  go_enter Tryz.func5, Tryz.ntmps5
  go_wp2_with fail
  refine (bytesU2_any a cap xs.length w hl).mono ?_
  rintro e w' ⟨⟨g, rfl⟩, rfl⟩
  cases g with
  | false =>
    go_wp2
    go_ret
    exact ⟨rfl, Below.refl _ _⟩
  | true =>
  by_cases h17 : 131072 < xs.length
  · go_wp2_with fail
    go_ret
    exact ⟨rfl, Below.refl _ _⟩
  go_wp2_with fail
  refine (toAny_any a cap xs w (by omega) hrow).mono ?_
  rintro e w1 ⟨a1, c1, n1, hn1, rfl, hown1, hb1, _⟩
  rw [anyI_len] at hn1
  subst hn1
  have r1 : Row w1 a1 (anyI xs) := made_row (anyI_len xs).symm hown1
  clear hown1 hrow
  go_wp2_with fail
  refine (unique_any a1 c1 xs w1 (by omega) r1).mono ?_
  rintro e w2 ⟨a2, c2, U, ⟨hu1, hu2, hu3⟩, rfl, r2, hb2⟩
  have HU : Hid (U.Pairwise (· < ·)) := hu1
  have hb12 := hb1.trans (hb2.mono hb1.size)
  clear hu1 hu2 hb1 hb2 r1
  go_wp2_with fail
  refine (fromAny_any a2 c2 U w2 (by omega) r2).mono ?_
  rintro e w3 ⟨a3, c3, rfl, r3, hb3⟩
  have r2' := r2.below (Nat.le_refl _) hb3
  have hb13 := hb12.trans (hb3.mono hb12.size)
  clear r2 hb12 hb3
  go_wp2_with fail
  refine (unique_any a2 c2 U w3 (by omega) r2').mono ?_
  rintro e w4 ⟨a4, c4, V, ⟨hv1, hv2, hv3⟩, rfl, r4, hb4⟩
  have HE : Hid (U = V) := (up_unique V U hv1 HU.out hv2).symm
  have r3' := r3.below (Nat.le_refl _) hb4
  have hb14 := hb13.trans (hb4.mono hb13.size)
  clear hv1 hv2 r3 r2' hb13 hb4
  go_wp2_with fail
  refine (fromAny_any a4 c4 V w4 (by omega) r4).mono ?_
  rintro e w5 ⟨a5, c5, rfl, r5, hb5⟩
  have r3'' := r3'.below (Nat.le_refl _) hb5
  have hb15 := hb14.trans (hb5.mono hb14.size)
  clear r3' r4 hb14 hb5
  go_wp2_with fail
  refine (equalInts_any a3 a5 c3 c5 U V w5 (by omega) r3'' r5 HE.out).mono ?_
  rintro e w6 ⟨rfl, hd⟩
  go_wp2
  go_ret
  exact ⟨rfl, hb15.trans (hd.below _)⟩

theorem Tryz.infoBool : (Tryz.prog.info? 4).map (fun i => (i.zero, i.size, i.bytes)) = some (some (.bool false), 1, 1) := by kernel_rfl
def boolV (bs : List Bool) : List Value := bs.map Value.bool
theorem boolV_get (bs : List Bool) {k : Nat} (h : k < bs.length) : (boolV bs)[k]? = some (.bool bs[k]) := by simp [boolV, h]
theorem boolV_len (bs : List Bool) : (boolV bs).length = bs.length := by simp [boolV]
theorem boolV_set (bs : List Bool) (j : Nat) (b : Bool) : (boolV bs).set j (.bool b) = boolV (bs.set j b) := by simp [boolV, List.map_set]
/-- Which values have been seen after k places. -/
def Seen (xs U : List Int) (k : Nat) (bs : List Bool) : Prop := ∀ (i : Nat) (_ : i < k) (hx : i < xs.length) (j : Nat) (hj : j < U.length), U[j] = xs[i] → bs[j]? = some true

theorem seen_step {xs U : List Int} (hU : U.Pairwise (· < ·)) {k j : Nat} {bs : List Bool} (hk : k < xs.length) (hj : j < U.length) (hl : bs.length = U.length) (e : U[j] = xs[k]) (h : Seen xs U k bs) : Seen xs U (k + 1) (bs.set j true) := by
  intro i hi hx q hq he
  rw [List.getElem?_set]
  by_cases c : j = q
  · rw [if_pos c, if_pos (by omega)]
  · rw [if_neg c]
    by_cases ci : i = k
    · subst ci
      exact absurd (up_inj hU hj hq (e.trans he.symm)) c
    · exact h i (by omega) hx q hq he
theorem seen_all {xs U : List Int} (hm : ∀ y, y ∈ U ↔ y ∈ xs) {bs : List Bool} (h : Seen xs U xs.length bs) : ∀ j, j < U.length → bs[j]? = some true := fun j hj => by
  obtain ⟨i, hi, e⟩ := List.getElem_of_mem ((hm _).1 (List.getElem_mem hj))
  exact h i hi hi j hj e.symm

set_option maxRecDepth 100000 in
set_option maxHeartbeats 3200000 in
theorem law_FnUniqueSortedDistinctExact (a : Option Addr) (cap : Nat) (xs : List Int) (w : World) (hl : xs.length ≤ 140737488351232) (_ha : a = none → xs = []) (_hcap : a = none → cap = 0) (hrow : Row w a (intV xs)) :
    Calls Tryz.prog 6 #[.slice a xs.length cap] w (Holds w) := by
  have mk := fun (x : Value) (w : World) => run_makeInterface (P := Tryz.prog) w 25 x (by kernel_rfl)
  obtain ⟨i0, hi, hz0, hz1, hz2⟩ := info_parts Tryz.infoBool
  go_enter Tryz.func6, Tryz.ntmps6
  go_wp2_with fail
  refine (bytesU1_any a cap xs.length w hl).mono ?_
  rintro e w' ⟨⟨g, rfl⟩, rfl⟩
  cases g with
  | false =>
    go_wp2
    go_ret
    exact ⟨rfl, Below.refl _ _⟩
  | true =>
  by_cases h17 : 131072 < xs.length
  · go_wp2_with fail
    go_ret
    exact ⟨rfl, Below.refl _ _⟩
  go_wp2_with fail
  refine (toAny_any a cap xs w (by omega) hrow).mono ?_
  rintro e w1 ⟨a1, c1, n1, hn1, rfl, hown1, hb1, _⟩
  rw [anyI_len] at hn1
  subst hn1
  have r1 : Row w1 a1 (anyI xs) := made_row (anyI_len xs).symm hown1
  clear hown1
  go_wp2_with fail
  refine (unique_any a1 c1 xs w1 (by omega) r1).mono ?_
  rintro e w2 ⟨a2, c2, U, hu, rfl, r2, hb2⟩
  have HU : Hid (UniqOf xs U) := hu
  have hul : U.length ≤ xs.length := hu.2.2
  have hb12 := hb1.trans (hb2.mono hb1.size)
  clear hu hb1 hb2 r1
  go_wp2_with fail
  refine (fromAny_any a2 c2 U w2 (by omega) r2).mono ?_
  rintro e w3 ⟨a3, c3, rfl, r3, hb3⟩
  have hb13 := hb12.trans (hb3.mono hb12.size)
  have rx := hrow.below (Nat.le_refl _) hb13
  clear r2 hb12 hb3 hrow
  go_wp2
  go_loopw [5] (fun i wr => ∃ k : Nat, i = .int .i64 ((k : Int) + 1) ∧ (k = 0 ∨ k + 1 ≤ U.length) ∧ Drawn w3 wr) (fun i _ => U.length - (intOf i).toNat)
  case atStart => exact ⟨0, rfl, .inl rfl, Drawn.refl w3⟩
  case round =>
    obtain ⟨k, rfl, hk, hd⟩ := hrel
    by_cases hlt : k + 1 < U.length
    · obtain ⟨b1, o1, rfl, _, g1⟩ := r3.at (k := k) (by rw [intV_len]; omega)
      have q1 := (hd.cell _).trans (g1 k _ (intV_get U (by omega)))
      have q2 := (hd.cell _).trans (g1 (k + 1) _ (intV_get U hlt))
      have hup := up_lt HU.out.1 (i := k) (j := k + 1) hlt (by omega)
      have hkI : (k : Int) + 1 < (U.length : Int) := by omega
      have hkI2 : (k : Int) < (U.length : Int) := by omega
      have hdec : decide (U[k] < U[k + 1]) = true := decide_eq_true hup
      clear g1
      go_wp2_with fail
      go_quiet (fail)
      go_wp2
      go_roundw
      case rel => exact ⟨k + 1, by congr 1, .inr (by omega), hd.more _⟩
      case measure => simp [intOf]; omega
    · obtain ⟨w4, hw4⟩ : ∃ w4, w4 = wr := ⟨_, rfl⟩
      subst hw4
      have hb4 := hb13.trans (hd.below _)
      have rx4 := rx.drawn hd
      have r34 := r3.drawn hd
      have hdec : decide ((k : Int) + 1 < (U.length : Int)) = false := decide_eq_false (by omega)
      clear rx r3 hb13 hd
      go_wp2_with (at_make; refine wpList_make_full _ rfl _ _ 34 rfl w4.heap.size 4 i0 (.bool false) 1 Tryz.underlying34 hi hz0 hz1 _ _ _ _ U.length rfl rfl rfl rfl ?c1 ?c2 ?c3 ?_)
      case c1 => rw [hz2]; omega
      case c2 => unfold maxLen; omega
      case c3 => omega
      intro w5 hown hgrow
      have hb5 : Below w4.heap.size w4 w5 := (Below.refl _ _).grown hgrow (Nat.le_refl _) (by intro k hk; cases hk)
      have hown5 : w5.ownsRow w4.heap.size 4 1 (.slice (some ⟨w4.heap.size, 0, none⟩) U.length U.length) U.length (boolV (List.replicate U.length false)) := by
        rw [show boolV (List.replicate U.length false) = List.replicate U.length (.bool false) by simp [boolV]]
        simpa [Value.cells, toList_madeCells_one] using hown
      clear hown hgrow
      go_wp2
      go_loopw [7] (fun i wq => ∃ (k : Nat) (bs : List Bool), i = .int .i64 k ∧ k ≤ xs.length ∧ bs.length = U.length ∧ Hid (Seen xs U k bs) ∧ wq.ownsRow w4.heap.size 4 1 (.slice (some ⟨w4.heap.size, 0, none⟩) U.length U.length) U.length (boolV bs) ∧ Below w4.heap.size w4 wq) (fun i _ => xs.length - (intOf i).toNat)
      case atStart => exact ⟨0, _, rfl, by omega, by simp, fun i h => by omega, hown5, hb5⟩
      case round =>
        clear hown5 hb5
        obtain ⟨k, bs, rfl, hk, hbl, HS, hown, hb⟩ := hrel
        by_cases hlt : k < xs.length
        · obtain ⟨b1, o1, rfl, hb1, g1⟩ := rx4.at (k := k) (by rw [intV_len]; omega)
          have q1 : wr.cell? ⟨b1, o1 + k, none⟩ = some (.int .i64 xs[k]) := (hb.cell (p := ⟨b1, o1 + k, none⟩) hb1).trans (g1 k _ (intV_get xs hlt))
          obtain ⟨j, hj, hje⟩ := List.getElem_of_mem ((HU.out.2.1 xs[k]).2 (List.getElem_mem hlt))
          have HS2 : Hid (Seen xs U (k + 1) (bs.set j true)) := seen_step HU.out.1 hlt hj hbl hje HS.out
          have HC : Hid (Calls Tryz.prog 22 _ wr _) := searchInt_any a3 c3 U j xs[k] wr (by omega) (r34.below (Nat.le_refl _) hb) HU.out.1 hj hje
          have q2 : wr.cell? ⟨w4.heap.size, j, none⟩ = some (.bool (bs[j]'(by omega))) := by rw [hown.cellAt j (by omega)]; exact boolV_get bs (by omega)
          have q3 := hown.frozenAt j
          have hst := (hown.stored j (.bool true)).1
          rw [boolV_set] at hst
          have hb2 : Below w4.heap.size w4 (wr.setCell ⟨w4.heap.size, j, none⟩ (.bool true)) := hb.setCell (by show w4.heap.size ≤ w4.heap.size; omega) _
          have hlen2 : (bs.set j true).length = U.length := by simpa using hbl
          have hkI : (k : Int) < (xs.length : Int) := by omega
          have hjI : (j : Int) < (U.length : Int) := by omega
          clear g1 HS hown hb hje
          go_wp2_with (go_at_call 22; refine HC.out.mono ?_; rintro e w' ⟨rfl, rfl⟩)
          go_roundw
          case rel => exact ⟨k + 1, bs.set j true, by congr 1, by omega, hlen2, HS2, hst, hb2⟩
          case measure => simp [intOf]; omega
        · obtain rfl : k = xs.length := by omega
          have hall := seen_all HU.out.2.1 HS.out
          have HALL : Hid (∀ j (h : j < U.length), bs[j]? = some true) := hall
          clear HS hall
          go_wp2
          go_loopw [9] (fun i wq => ∃ j : Nat, i = .int .i64 j ∧ j ≤ U.length ∧ wq = wr) (fun i _ => U.length - (intOf i).toNat)
          case atStart => exact ⟨0, rfl, by omega, rfl⟩
          case round =>
            obtain ⟨j, rfl, hj, rfl⟩ := hrel
            by_cases hlt2 : j < U.length
            · have q2 : wr.cell? ⟨w4.heap.size, j, none⟩ = some (.bool true) := by
                rw [hown.cellAt j (by omega)]
                have := HALL.out j hlt2
                rw [List.getElem?_eq_some_iff] at this
                obtain ⟨h1, h2⟩ := this
                rw [boolV_get bs h1, h2]
              have hjI : (j : Int) < (U.length : Int) := by omega
              go_wp2
              go_roundw
              case rel => exact ⟨j + 1, by congr 1, by omega, by first | rfl | trivial⟩
              case measure => simp [intOf]; omega
            · go_wp2
              go_ret
              exact ⟨rfl, hb4.trans (hb.mono hb4.size)⟩
end Go.Proofs.YtheochfpidahmaaGreatDoor
