/-
  What unique answers over one row of ints: the plain law; and the law's own readers: asInts, equalInts, searchInt (folder n001_68).
-/
import Derived.Test.YtheochfpidahmaaGreatDoorUniq
import Derived.Test.YtheochfpidahmaaGreatDoorFromAny
namespace Go.Proofs.YtheochfpidahmaaGreatDoor
open Go Go.RowKit Go.Sort

theorem keyF_getD {xs : List Int} {x : Nat} (h : x < xs.length) : keyF xs x = xs.getD x 0 := by
  rw [keyF_at h]; simp [h]

section
variable {xs : List Int} {d : Array Nat} {n : Nat}
theorem uniq_up (hn : xs.length = n) (hS : SortedIn (tlK (keyF xs)) 0 n d) (hP : PermIn 0 n (Array.range n) d) : (uniqL xs xs d n).Pairwise (· < ·) := by
  unfold uniqL
  refine List.pairwise_map.2 ((heads_up hS n (Nat.le_refl _)).imp_of_mem fun {a b} ha hb hab => ?_)
  rw [keyF_getD (by rw [hn]; exact (heads_first hS hP a ha).1), keyF_getD (by rw [hn]; exact (heads_first hS hP b hb).1)] at hab
  exact hab
theorem uniq_mem (hn : xs.length = n) (hS : SortedIn (tlK (keyF xs)) 0 n d) (hP : PermIn 0 n (Array.range n) d) (y : Int) : y ∈ uniqL xs xs d n ↔ y ∈ xs := by
  unfold uniqL
  constructor
  · intro h
    obtain ⟨x, hx, rfl⟩ := List.mem_map.1 h
    have hxn : x < xs.length := by rw [hn]; exact (heads_first hS hP x hx).1
    have : xs.getD x 0 = xs[x] := by simp [hxn]
    rw [this]
    exact List.getElem_mem hxn
  · intro h
    obtain ⟨i, hi, rfl⟩ := List.getElem_of_mem h
    obtain ⟨x, hx, e⟩ := heads_all hP (K := keyF xs) (y := i) (by omega)
    refine List.mem_map.2 ⟨x, hx, ?_⟩
    have hxn : x < xs.length := by rw [hn]; exact (heads_first hS hP x hx).1
    rw [keyF_getD hxn, keyF_at hi] at e
    exact e
end

theorem uniq_twice {xs : List Int} {d d2 : Array Nat} {n m : Nat} (hn : xs.length = n) (hS : SortedIn (tlK (keyF xs)) 0 n d) (hP : PermIn 0 n (Array.range n) d) (hm : (uniqL xs xs d n).length = m)
    (hS2 : SortedIn (tlK (keyF (uniqL xs xs d n))) 0 m d2) (hP2 : PermIn 0 m (Array.range m) d2) : uniqL (uniqL xs xs d n) (uniqL xs xs d n) d2 m = uniqL xs xs d n :=
  up_unique _ _ (uniq_up hm hS2 hP2) (uniq_up hn hS hP) (uniq_mem hm hS2 hP2)

/-- Places in an ascending row. -/
theorem up_inj {r : List Int} (h : r.Pairwise (· < ·)) {i j : Nat} (hi : i < r.length) (hj : j < r.length) (e : r[i] = r[j]) : i = j := by
  rcases Nat.lt_trichotomy i j with c | c | c
  · have := List.pairwise_iff_getElem.1 h i j hi hj c; omega
  · exact c
  · have := List.pairwise_iff_getElem.1 h j i hj hi c; omega
theorem up_lt {r : List Int} (h : r.Pairwise (· < ·)) {i j : Nat} (hj : j < r.length) (hij : i < j) : r[i] < r[j] := List.pairwise_iff_getElem.1 h i j (by omega) hj hij

set_option maxHeartbeats 800000 in
theorem equalInts_any (a1 a2 : Option Addr) (c1 c2 : Nat) (xs ys : List Int) (w : World) (hl1 : xs.length ≤ 1099511627776) (r1 : Row w a1 (intV xs)) (r2 : Row w a2 (intV ys)) (hxy : xs = ys) :
    Calls Tryz.prog 20 #[.slice a1 xs.length c1, .slice a2 ys.length c2] w fun e w' => e = .returned (.bool true) ∧ Drawn w w' := by
  subst hxy
  go_enter Tryz.func20, Tryz.ntmps20
  go_wp2
  go_loopw [5] (fun i wr => ∃ k : Nat, k ≤ xs.length ∧ i = .int .i64 k ∧ Drawn w wr) (fun i _ => xs.length - (intOf i).toNat)
  case atStart => exact ⟨0, by omega, rfl, Drawn.refl w⟩
  case round =>
    obtain ⟨k, hk, rfl, hd⟩ := hrel
    by_cases hlt : k < xs.length
    · obtain ⟨b1, o1, rfl, _, g1⟩ := r1.at (k := k) (by rw [intV_len]; exact hlt)
      obtain ⟨b2, o2, rfl, _, g2⟩ := r2.at (k := k) (by rw [intV_len]; exact hlt)
      have hc1 := (hd.cell _).trans (g1 k _ (intV_get xs hlt))
      have hc2 := (hd.cell _).trans (g2 k _ (intV_get xs hlt))
      have hi1 : (k : Int) < (xs.length : Int) := by omega
      clear g1 g2
      go_wp2_with fail
      go_quiet (fail)
      go_wp2
      go_roundw
      case rel => exact ⟨k + 1, by omega, by go_num, hd.more _⟩
      case measure => simp [intOf]; omega
    · go_wp2
      go_ret
      exact ⟨rfl, hd⟩

set_option maxHeartbeats 1600000 in
/-- The binary search over an ascending row, for a value that is there. -/
theorem searchInt_any (a : Option Addr) (c : Nat) (r : List Int) (j : Nat) (x : Int) (w : World) (hl : r.length ≤ 1099511627776) (hr : Row w a (intV r)) (hup : r.Pairwise (· < ·)) (hj : j < r.length) (hx : r[j] = x) :
    Calls Tryz.prog 22 #[.slice a r.length c, .int .i64 x] w fun e w' => e = .returned (.int .i64 j) ∧ w = w' := by
  obtain ⟨b, off, rfl, hbw, hc⟩ := hr.at (k := j) (by rw [intV_len]; exact hj)
  have HUP : Hid (r.Pairwise (· < ·)) := hup
  have HX : Hid (∀ h : j < r.length, r[j] = x) := fun _ => hx
  have HCELL : Hid (∀ (k : Nat) (h : k < r.length), w.cell? ⟨b, off + k, none⟩ = some (.int .i64 r[k])) := fun k h => hc k _ (intV_get r h)
  clear hr hc hup hx
  go_enter Tryz.func22, Tryz.ntmps22
  go_wp2
  go_loopw [5, 6] (fun vl vh wr => ∃ lo hi : Nat, vl = .int .i64 lo ∧ vh = .int .i64 hi ∧ lo ≤ j ∧ j ≤ hi ∧ hi ≤ r.length ∧ wr = w) (fun vl vh _ => (intOf vh).toNat - (intOf vl).toNat)
  case atStart => exact ⟨0, r.length, rfl, rfl, by omega, by omega, by omega, rfl⟩
  case round =>
    obtain ⟨lo, hi, rfl, rfl, h1, h2, h3, rfl⟩ := hrel
    by_cases hlt : lo < hi
    · obtain ⟨m, hm⟩ : ∃ m, m = lo + (hi - lo) / 2 := ⟨_, rfl⟩
      have hm1 : lo ≤ m ∧ m < hi := by omega
      have hmI : (lo : Int) + ((hi : Int) - (lo : Int)) / 2 = (m : Int) := by omega
      have hmT : (lo : Int) + ((hi : Int) - (lo : Int)).tdiv 2 = (m : Int) := by
        rw [Int.tdiv_eq_ediv_of_nonneg (by omega)]; exact hmI
      have hcm := HCELL.out m (by omega)
      obtain ⟨rm, hrm⟩ : ∃ rm, r[m]'(by omega) = rm := ⟨_, rfl⟩
      rw [hrm] at hcm
      have hmL : (m : Int) < (r.length : Int) := by omega
      have HJ : Hid (rm < x → m < j) := fun h => by
        rcases Nat.lt_or_ge m j with c | c
        · exact c
        · exfalso
          rcases Nat.lt_or_eq_of_le c with c | c
          · have := up_lt HUP.out (i := j) (j := m) (by omega) c
            have := HX.out hj
            omega
          · have := HX.out hj
            subst c
            omega
      have HJ2 : Hid (¬ rm < x → j ≤ m) := fun h => by
        rcases Nat.lt_or_ge m j with c | c
        · exfalso
          have := up_lt HUP.out (i := m) (j := j) hj c
          have := HX.out hj
          omega
        · exact c
      clear hm hrm
      by_cases hc : rm < x
      · have h4 := HJ.out hc
        have hd : decide (rm < x) = true := decide_eq_true hc
        go_wp2
        go_roundw
        case rel => exact ⟨m + 1, hi, by congr 1, rfl, by omega, h2, h3, by first | rfl | trivial⟩
        case measure => simp [intOf]; omega
      · have h4 := HJ2.out hc
        have hd : decide (rm < x) = false := decide_eq_false hc
        go_wp2
        go_roundw
        case rel => exact ⟨lo, m, rfl, by congr 1, h1, h4, by omega, by first | rfl | trivial⟩
        case measure => simp [intOf]; omega
    · obtain rfl : lo = j := by omega
      have hcm := HCELL.out lo hj
      rw [HX.out hj] at hcm
      have hmL : (lo : Int) < (r.length : Int) := by omega
      go_wp2
      go_ret
      exact ⟨rfl, rfl⟩
end Go.Proofs.YtheochfpidahmaaGreatDoor
