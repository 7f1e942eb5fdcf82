/-
  minMaxBy over rows of ints: the first least, the last greatest key; the exported calls (folder n001_67).
-/
import Derived.Test.YtbochicgnoannaaGreatDoorClone
namespace Go.Proofs.YtbochicgnoannaaGreatDoor
open Go Go.RowKit

/-- Of the first k keys the one at j is chosen: the first least, or the last greatest. -/
def Best (isMin : Bool) (xs : List Int) (k j : Nat) : Prop :=
  j < k ∧ ∀ i, i < k → (isMin = true → xs.getD j 0 ≤ xs.getD i 0 ∧ (i < j → xs.getD j 0 < xs.getD i 0)) ∧ (isMin = false → xs.getD i 0 ≤ xs.getD j 0 ∧ (j < i → xs.getD i 0 < xs.getD j 0))
theorem Best.uniq {m : Bool} {xs : List Int} {k i j : Nat} (h : Best m xs k i) (g : Best m xs k j) : i = j := by
  obtain ⟨h1, h2⟩ := h
  obtain ⟨g1, g2⟩ := g
  have a := h2 j g1
  have b := g2 i h1
  cases m with
  | true =>
    have a1 := (a.1 rfl).1
    have a2 := (a.1 rfl).2
    have b1 := (b.1 rfl).1
    have b2 := (b.1 rfl).2
    rcases Nat.lt_trichotomy i j with h | h | h
    · have := b2 h; omega
    · exact h
    · have := a2 h; omega
  | false =>
    have a1 := (a.2 rfl).1
    have a2 := (a.2 rfl).2
    have b1 := (b.2 rfl).1
    have b2 := (b.2 rfl).2
    rcases Nat.lt_trichotomy i j with h | h | h
    · have := a2 h; omega
    · exact h
    · have := b2 h; omega
theorem Best.one (m : Bool) (xs : List Int) : Best m xs 1 0 := ⟨by omega, fun i hi => by
  obtain rfl : i = 0 := by omega
  exact ⟨fun _ => ⟨Int.le_refl _, fun h => by omega⟩, fun _ => ⟨Int.le_refl _, fun h => by omega⟩⟩⟩
/-- The next key takes its place, or does not. -/
theorem Best.step_new {m : Bool} {xs : List Int} {k j : Nat} (h : Best m xs k j) (hm : m = true → xs.getD k 0 < xs.getD j 0) (hM : m = false → xs.getD j 0 ≤ xs.getD k 0) : Best m xs (k + 1) k := by
  refine ⟨by omega, fun i hi => ⟨fun e => ?_, fun e => ?_⟩⟩
  · have h3 := hm e
    rcases (show i < k ∨ i = k by omega) with hk | rfl
    · have := ((h.2 i hk).1 e).1
      exact ⟨by omega, fun _ => by omega⟩
    · exact ⟨Int.le_refl _, fun h => by omega⟩
  · have h3 := hM e
    rcases (show i < k ∨ i = k by omega) with hk | rfl
    · have := ((h.2 i hk).2 e).1
      exact ⟨by omega, fun h => by omega⟩
    · exact ⟨Int.le_refl _, fun h => by omega⟩
theorem Best.step_old {m : Bool} {xs : List Int} {k j : Nat} (h : Best m xs k j) (hm : m = true → xs.getD j 0 ≤ xs.getD k 0) (hM : m = false → xs.getD k 0 < xs.getD j 0) : Best m xs (k + 1) j := by
  have hj := h.1
  refine ⟨by omega, fun i hi => ?_⟩
  rcases (show i < k ∨ i = k by omega) with hk | rfl
  · exact h.2 i hk
  · exact ⟨fun e => ⟨hm e, fun h => by omega⟩, fun e => ⟨by have := hM e; omega, fun _ => hM e⟩⟩
theorem getD_of {xs : List Int} {k : Nat} (h : k < xs.length) : xs.getD k 0 = xs[k] := by simp [List.getD, h]

set_option maxRecDepth 100000 in
set_option maxHeartbeats 800000 in
theorem minMaxBy_any (a b : Option Addr) (c d : Nat) (vs xs : List Int) (m : Bool) (w : World) (hl : xs.length ≤ 1099511627776) (hlen : vs.length = xs.length) (hpos : 0 < xs.length) (r : Row w a (anyI vs)) (q : Row w b (anyI xs)) :
    Calls Tryz.prog 24 #[.slice a vs.length c, .slice b xs.length d, .bool m] w fun e w' => ∃ j, Best m xs xs.length j ∧ e = .returned (.iface 3 (.int .i64 (vs.getD j 0))) ∧ Drawn w w' := by
  have hne : ((vs.length : Int) == 0) = false := beq_eq_false_iff_ne.2 (by omega)
  obtain ⟨b2, off, rfl, hbw, hc⟩ := q.at (k := 0) (by rw [anyI_len]; exact hpos)
  have hc0 : w.cell? ⟨b2, off + 0, none⟩ = some (.iface 3 (.int .i64 xs[0])) := hc 0 _ (anyI_get xs hpos)
  rw [Nat.add_zero] at hc0
  obtain ⟨a2, off2, rfl, hbw2, hv⟩ := r.at (k := 0) (by rw [anyI_len]; omega)
  have hp0 : (0 : Int) < (xs.length : Int) := by omega
  have HC : Hid (∀ j u, (anyI xs)[j]? = some u → w.cell? ⟨b2, off + j, none⟩ = some u) := hc
  have HV : Hid (∀ j u, (anyI vs)[j]? = some u → w.cell? ⟨a2, off2 + j, none⟩ = some u) := hv
  have HL : Hid (vs.length = xs.length) := hlen
  clear hc hv q r hbw hbw2 hlen
  go_enter Tryz.func24, Tryz.ntmps24
  go_wp2_with fail
  go_quiet (fail)
  clear hc0
  go_wp2_with fail
  go_loopw [7, 8, 9] (fun i j x wr => ∃ (k jj : Nat) (y : Int), 1 ≤ k ∧ k ≤ xs.length ∧ i = .int .i64 k ∧ j = .int .i64 jj ∧ x = .iface 3 (.int .i64 y) ∧ Hid (y = xs.getD jj 0) ∧ Hid (Best m xs k jj) ∧ Drawn w wr)
    (fun i _ _ _ => xs.length - (intOf i).toNat)
  case atStart => exact ⟨1, 0, xs[0], by omega, by omega, by go_num, rfl, rfl, (by show _ = _; rw [getD_of hpos]), Best.one m xs, by first | exact Drawn.refl w | exact (Drawn.refl w).more _⟩
  case round =>
    obtain ⟨k, jj, y, hk1, hk, rfl, rfl, rfl, hy, hm, hd⟩ := hrel
    by_cases hlt : k < xs.length
    · have hck : wr.cell? ⟨b2, off + k, none⟩ = some (.iface 3 (.int .i64 xs[k])) := (hd.cell _).trans (HC.out k _ (anyI_get xs hlt))
      have hki : (k : Int) < (xs.length : Int) := by omega
      have e1 := getD_of hlt
      have e2 := hy.out
      have new : ((m = true → xs[k] < y) ∧ (m = false → y ≤ xs[k])) → Hid (xs[k] = xs.getD k 0) ∧ Hid (Best m xs (k + 1) k) := fun h => ⟨e1.symm, hm.out.step_new (fun e => by have := h.1 e; omega) (fun e => by have := h.2 e; omega)⟩
      have old : ((m = true → y ≤ xs[k]) ∧ (m = false → xs[k] < y)) → Hid (Best m xs (k + 1) jj) := fun h => hm.out.step_old (fun e => by have := h.1 e; omega) (fun e => by have := h.2 e; omega)
      clear e1 e2
      generalize xs[k] = z at hck new old
      have NW : Hid (_ → _ ∧ _) := new
      have OD : Hid (_ → Hid (Best m xs (k + 1) jj)) := old
      clear new old
      have hCC := fun (w : World) => compareInt_any y z w
      cases m with
      | true =>
        rcases (show z < y ∨ y < z ∨ y = z by omega) with h | h | h
        · rw [cmpI_gt h] at hCC
          obtain ⟨p1, p2⟩ := NW.out ⟨fun _ => h, (fun e => by cases e)⟩
          clear NW OD
          go_wp2_with (go_at_call 26; refine (hCC _).mono ?_; rintro e w' ⟨rfl, rfl⟩)
          go_quiet (fail)
          go_wp2_with fail
          go_roundw
          case rel => exact ⟨k + 1, k, z, by omega, by omega, by go_num, by first | rfl | go_num, rfl, p1, p2, by first | exact hd | exact hd.more _⟩
          case measure => simp [intOf]; omega
        · rw [cmpI_lt h] at hCC
          have p := OD.out ⟨fun _ => by omega, (fun e => by cases e)⟩
          clear NW OD
          go_wp2_with (go_at_call 26; refine (hCC _).mono ?_; rintro e w' ⟨rfl, rfl⟩)
          go_roundw
          case rel => exact ⟨k + 1, jj, y, by omega, by omega, by go_num, rfl, rfl, hy, p, hd⟩
          case measure => simp [intOf]; omega
        · subst h
          rw [cmpI_eq rfl] at hCC
          have p := OD.out ⟨fun _ => by omega, (fun e => by cases e)⟩
          clear NW OD
          go_wp2_with (go_at_call 26; refine (hCC _).mono ?_; rintro e w' ⟨rfl, rfl⟩)
          go_roundw
          case rel => exact ⟨k + 1, jj, y, by omega, by omega, by go_num, rfl, rfl, hy, p, hd⟩
          case measure => simp [intOf]; omega
      | false =>
        rcases (show z < y ∨ y < z ∨ y = z by omega) with h | h | h
        · rw [cmpI_gt h] at hCC
          have p := OD.out ⟨(fun e => by cases e), fun _ => h⟩
          clear NW OD
          go_wp2_with (go_at_call 26; refine (hCC _).mono ?_; rintro e w' ⟨rfl, rfl⟩)
          go_roundw
          case rel => exact ⟨k + 1, jj, y, by omega, by omega, by go_num, rfl, rfl, hy, p, hd⟩
          case measure => simp [intOf]; omega
        · rw [cmpI_lt h] at hCC
          obtain ⟨p1, p2⟩ := NW.out ⟨(fun e => by cases e), fun _ => by omega⟩
          clear NW OD
          go_wp2_with (go_at_call 26; refine (hCC _).mono ?_; rintro e w' ⟨rfl, rfl⟩)
          go_quiet (fail)
          go_wp2_with fail
          go_roundw
          case rel => exact ⟨k + 1, k, z, by omega, by omega, by go_num, by first | rfl | go_num, rfl, p1, p2, by first | exact hd | exact hd.more _⟩
          case measure => simp [intOf]; omega
        · subst h
          rw [cmpI_eq rfl] at hCC
          obtain ⟨p1, p2⟩ := NW.out ⟨(fun e => by cases e), fun _ => by omega⟩
          clear NW OD
          go_wp2_with (go_at_call 26; refine (hCC _).mono ?_; rintro e w' ⟨rfl, rfl⟩)
          go_quiet (fail)
          go_wp2_with fail
          go_roundw
          case rel => exact ⟨k + 1, k, y, by omega, by omega, by go_num, by first | rfl | go_num, rfl, p1, p2, by first | exact hd | exact hd.more _⟩
          case measure => simp [intOf]; omega
    · have hk' : k = xs.length := by omega
      subst hk'
      have hjx := hm.out.1
      have hjv : jj < vs.length := by have := HL.out; omega
      have hcj : wr.cell? ⟨a2, off2 + jj, none⟩ = some (.iface 3 (.int .i64 (vs.getD jj 0))) := by
        rw [getD_of hjv]
        exact (hd.cell _).trans (HV.out jj _ (anyI_get vs hjv))
      have hji : (jj : Int) < (vs.length : Int) := by omega
      go_wp2_with fail
      go_ret
      exact ⟨jj, hm.out, by rw [getD_of hjv]; rfl, hd⟩
end Go.Proofs.YtbochicgnoannaaGreatDoor
