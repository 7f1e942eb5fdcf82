/-
  min over ints: minMaxBy, funcMin, the law's own minimum, its copy of a row (folder n001_91).
-/
import Derived.Test.YtepebjabacgeoaaGreatDoorToAny
namespace Go.Proofs.YtepebjabacgeoaaGreatDoor
open Go Go.RowKit

theorem Tryz.infoInt : (Tryz.prog.info? 3).map (fun i => (i.zero, i.size, i.bytes)) = some (some (.int .i64 0), 1, 8) := by kernel_rfl

/-- m is the least of l. -/
def IsMin (m : Int) (l : List Int) : Prop := m ∈ l ∧ ∀ y ∈ l, m ≤ y
theorem IsMin.uniq {m n : Int} {l : List Int} (h : IsMin m l) (k : IsMin n l) : m = n := by
  have := h.2 n k.1
  have := k.2 m h.1
  omega
theorem IsMin.one (x : Int) : IsMin x [x] := ⟨by simp, by simp⟩
theorem IsMin.snoc_lt {m x : Int} {l : List Int} (h : IsMin m l) (hx : x < m) : IsMin x (l ++ [x]) := by
  refine ⟨by simp, fun y hy => ?_⟩
  rcases List.mem_append.1 hy with hy | hy
  · have := h.2 y hy; omega
  · simp at hy; omega
theorem IsMin.snoc_ge {m x : Int} {l : List Int} (h : IsMin m l) (hx : ¬ x < m) : IsMin m (l ++ [x]) := by
  refine ⟨List.mem_append_left _ h.1, fun y hy => ?_⟩
  rcases List.mem_append.1 hy with hy | hy
  · exact h.2 y hy
  · simp at hy; omega
theorem IsMin.app {m n : Int} {l r : List Int} (h : IsMin m l) (k : IsMin n r) : IsMin (if n < m then n else m) (l ++ r) := by
  split
  · refine ⟨List.mem_append_right _ k.1, fun y hy => ?_⟩
    rcases List.mem_append.1 hy with hy | hy
    · have := h.2 y hy; omega
    · exact k.2 y hy
  · refine ⟨List.mem_append_left _ h.1, fun y hy => ?_⟩
    rcases List.mem_append.1 hy with hy | hy
    · exact h.2 y hy
    · have := k.2 y hy; omega
theorem takeI_snoc {l : List Int} {k : Nat} (h : k < l.length) : l.take (k + 1) = l.take k ++ [l[k]] := by rw [List.take_succ_eq_append_getElem h]

set_option maxRecDepth 100000 in
set_option maxHeartbeats 800000 in
theorem minMaxBy_any (a : Option Addr) (c : Nat) (xs : List Int) (w : World) (hl : xs.length ≤ 1099511627776) (hpos : 0 < xs.length) (r : Row w a (anyI xs)) :
    Calls Tryz.prog 51 #[.slice a xs.length c, .slice a xs.length c, .bool true] w fun e w' => ∃ m, IsMin m xs ∧ e = .returned (.iface 3 (.int .i64 m)) ∧ Drawn w w' := by
  have hne : ((xs.length : Int) == 0) = false := beq_eq_false_iff_ne.2 (by omega)
  obtain ⟨b, off, rfl, hbw, hc⟩ := r.at (k := 0) (by rw [anyI_len]; exact hpos)
  have hc0 : w.cell? ⟨b, off + 0, none⟩ = some (.iface 3 (.int .i64 xs[0])) := hc 0 _ (anyI_get xs hpos)
  rw [Nat.add_zero] at hc0
  have hp0 : (0 : Int) < (xs.length : Int) := by omega
  have HC : Hid (∀ j u, (anyI xs)[j]? = some u → w.cell? ⟨b, off + j, none⟩ = some u) := hc
  clear hc r hbw
  go_enter Tryz.func51, Tryz.ntmps51
  go_wp2_with fail
  go_quiet (fail)
  clear hc0
  go_wp2_with fail
  go_loopw [7, 8, 9] (fun i j x wr => ∃ (k jj : Nat) (m : Int), 1 ≤ k ∧ k ≤ xs.length ∧ i = .int .i64 k ∧ j = .int .i64 jj ∧ x = .iface 3 (.int .i64 m) ∧ (∃ h : jj < xs.length, Hid (xs[jj] = m)) ∧ Hid (IsMin m (xs.take k)) ∧ Drawn w wr)
    (fun i _ _ _ => xs.length - (intOf i).toNat)
  case atStart => exact ⟨1, 0, xs[0], by omega, by omega, by go_num, rfl, rfl, ⟨hpos, rfl⟩, (by
      show IsMin _ _
      rw [show xs.take 1 = [xs[0]] by cases xs with | nil => simp at hpos | cons x t => rfl]
      exact IsMin.one _), by first | exact Drawn.refl w | exact (Drawn.refl w).more _⟩
  case round =>
    obtain ⟨k, jj, m, hk1, hk, rfl, rfl, rfl, ⟨hj, hjm⟩, hm, hd⟩ := hrel
    by_cases hlt : k < xs.length
    · have hck : wr.cell? ⟨b, off + k, none⟩ = some (.iface 3 (.int .i64 xs[k])) := (hd.cell _).trans (HC.out k _ (anyI_get xs hlt))
      have hki : (k : Int) < (xs.length : Int) := by omega
      by_cases hx : xs[k] < m
      · have hcmp : cmpI m xs[k] = 1 := cmpI_gt hx
        have hm' : Hid (IsMin xs[k] (xs.take (k + 1))) := by show IsMin _ _; rw [takeI_snoc hlt]; exact hm.out.snoc_lt hx
        go_wp2_with fail
        refine (compareInt_any m xs[k] wr).mono ?_
        rintro e w' ⟨rfl, rfl⟩
        rw [hcmp]
        go_wp2_with fail
        go_quiet (fail)
        go_wp2_with fail
        go_roundw
        case rel => exact ⟨k + 1, k, xs[k], by omega, by omega, by go_num, by first | rfl | go_num, rfl, ⟨hlt, rfl⟩, hm', by first | exact hd | exact hd.more _⟩
        case measure => simp [intOf]; omega
      · have hcmp : (cmpI m xs[k] = -1) ∨ (cmpI m xs[k] = 0) := by
          rcases (show m < xs[k] ∨ m = xs[k] by omega) with h | h
          · exact .inl (cmpI_lt h)
          · exact .inr (cmpI_eq h)
        have hm' : Hid (IsMin m (xs.take (k + 1))) := by show IsMin _ _; rw [takeI_snoc hlt]; exact hm.out.snoc_ge hx
        rcases hcmp with hcmp | hcmp
        · go_wp2_with fail
          refine (compareInt_any m xs[k] wr).mono ?_
          rintro e w' ⟨rfl, rfl⟩
          rw [hcmp]
          go_wp2_with fail
          go_roundw
          case rel => exact ⟨k + 1, jj, m, by omega, by omega, by go_num, rfl, rfl, ⟨hj, hjm⟩, hm', hd⟩
          case measure => simp [intOf]; omega
        · go_wp2_with fail
          refine (compareInt_any m xs[k] wr).mono ?_
          rintro e w' ⟨rfl, rfl⟩
          rw [hcmp]
          go_wp2_with fail
          go_roundw
          case rel => exact ⟨k + 1, jj, m, by omega, by omega, by go_num, rfl, rfl, ⟨hj, hjm⟩, hm', hd⟩
          case measure => simp [intOf]; omega
    · have hk' : k = xs.length := by omega
      subst hk'
      have hcj : wr.cell? ⟨b, off + jj, none⟩ = some (.iface 3 (.int .i64 m)) := (hd.cell _).trans ((HC.out jj _ (anyI_get xs hj)).trans (by rw [hjm.out]))
      have hji : (jj : Int) < (xs.length : Int) := by omega
      have hmm : IsMin m xs := by have := hm.out; rwa [List.take_length] at this
      go_wp2_with fail
      go_ret
      exact ⟨m, hmm, rfl, hd⟩

set_option maxRecDepth 100000 in
set_option maxHeartbeats 800000 in
theorem funcMin_any (a : Option Addr) (c : Nat) (xs : List Int) (w : World) (hl : xs.length ≤ 1099511627776) (r : Row w a (anyI xs)) :
    Calls Tryz.prog 35 #[.iface 26 (.slice a xs.length c)] w fun e w' => (xs = [] ∧ e = .returned .nilIface ∨ ∃ m, IsMin m xs ∧ e = .returned (.iface 3 (.int .i64 m))) ∧ Drawn w w' := by
  have h2 := fun (v : Value) (w : World) => a_arr v w
  by_cases h0 : xs.length = 0
  · have hx := List.eq_nil_of_length_eq_zero h0
    subst hx
    clear r
    go_enter Tryz.func35, Tryz.ntmps35
    go_wp2_with (first | fail | go_in)
    go_ret
    exact ⟨.inl (by first | exact ⟨rfl, rfl⟩ | trivial | simp), Drawn.refl w⟩
  · have HM : Hid (Calls Tryz.prog 51 _ w _) := minMaxBy_any a c xs w hl (by omega) r
    clear r
    go_enter Tryz.func35, Tryz.ntmps35
    go_wp2_with (go_at_call 51; refine HM.out.mono ?_; rintro e w' ⟨m, hm, rfl, hd⟩)
    go_ret
    exact ⟨.inr ⟨m, hm, rfl⟩, hd⟩

/-- The part of a row from lo to hi. -/
def part (xs : List Int) (lo hi : Nat) : List Int := (xs.take hi).drop lo
theorem part_one {xs : List Int} {lo : Nat} (h : lo < xs.length) : part xs lo (lo + 1) = [xs[lo]] := by
  unfold part
  rw [takeI_snoc h, List.drop_append, List.drop_of_length_le (by simp; omega), List.length_take, Nat.min_eq_left (by omega), Nat.sub_self]
  rfl
theorem part_app (xs : List Int) {lo mid hi : Nat} (h1 : lo ≤ mid) (h2 : mid ≤ hi) : part xs lo hi = part xs lo mid ++ part xs mid hi := by
  unfold part
  rw [show xs.take mid = (xs.take hi).take mid by rw [List.take_take, Nat.min_eq_left h2]]
  generalize xs.take hi = l
  have : l.drop lo = (l.drop lo).take (mid - lo) ++ (l.drop lo).drop (mid - lo) := (List.take_append_drop _ _).symm
  rw [List.drop_drop, show lo + (mid - lo) = mid by omega] at this
  rw [this, ← List.drop_take]

set_option maxRecDepth 100000 in
set_option maxHeartbeats 800000 in
theorem minOf_any (a : Option Addr) (c : Nat) (xs : List Int) (hl : xs.length ≤ 1099511627776) : ∀ (n lo hi : Nat) (w : World), hi - lo ≤ n → lo < hi → hi ≤ xs.length → Row w a (intV xs) →
    Calls Tryz.prog 15 #[.slice a xs.length c, .int .i64 lo, .int .i64 hi] w fun e w' => ∃ m, IsMin m (part xs lo hi) ∧ e = .returned (.int .i64 m) ∧ w = w'
  | 0, lo, hi, w, h0, h1, h2, r => by omega
  | n + 1, lo, hi, w, h0, h1, h2, r => by
    by_cases hone : hi = lo + 1
    · subst hone
      obtain ⟨b, off, rfl, hbw, hc⟩ := r.at (k := lo) (by rw [intV_len]; omega)
      have hck : w.cell? ⟨b, off + lo, none⟩ = some (.int .i64 xs[lo]) := hc lo _ (intV_get xs (by omega))
      have hki : (lo : Int) < (xs.length : Int) := by omega
      have hone' : (((lo + 1 : Nat) : Int) - (lo : Int) == 1) = true := beq_iff_eq.2 (by omega)
      clear hc r
      go_enter Tryz.func15, Tryz.ntmps15
      go_wp2
      go_ret
      exact ⟨_, by rw [part_one (by omega)]; exact IsMin.one _, rfl, rfl⟩
    · obtain ⟨mid, hmid, hm1, hm2⟩ : ∃ mid : Nat, (mid : Int) = (lo : Int) + ((hi : Int) - lo).tdiv 2 ∧ lo < mid ∧ mid < hi := by
        refine ⟨lo + (hi - lo) / 2, ?_, by omega, by omega⟩
        rw [show ((hi : Int) - lo) = ((hi - lo : Nat) : Int) by omega, Int.tdiv_eq_ediv_of_nonneg (by omega)]
        omega
      have IH1 := minOf_any a c xs hl n lo mid w (by omega) hm1 (by omega) r
      have IH2 := minOf_any a c xs hl n mid hi w (by omega) hm2 (by omega) r
      rw [hmid] at IH1 IH2
      have H1 : Hid (Calls Tryz.prog 15 _ w _) := IH1
      have H2 : Hid (Calls Tryz.prog 15 _ w _) := IH2
      clear IH1 IH2 r
      have hne : ((hi : Int) - lo == 1) = false := beq_eq_false_iff_ne.2 (by omega)
      go_enter Tryz.func15, Tryz.ntmps15
      go_wp2_with fail
      refine H1.out.mono ?_
      rintro e w' ⟨m1, hm1', rfl, rfl⟩
      go_wp2_with fail
      refine H2.out.mono ?_
      rintro e w' ⟨m2, hm2', rfl, rfl⟩
      have happ := hm1'.app hm2'
      rw [← part_app xs (by omega) (by omega)] at happ
      by_cases hx : m2 < m1
      · rw [if_pos hx] at happ
        go_wp2_with fail
        go_ret
        exact ⟨_, happ, rfl, rfl⟩
      · rw [if_neg hx] at happ
        go_wp2_with fail
        go_ret
        exact ⟨_, happ, rfl, rfl⟩
end Go.Proofs.YtepebjabacgeoaaGreatDoor
