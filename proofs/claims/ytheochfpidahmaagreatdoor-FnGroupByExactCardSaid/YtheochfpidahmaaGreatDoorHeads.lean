/-
  The first of each run of equal keys in a row that is ordered by key and place: the plain law.
-/
import Derived.Test.YtheochfpidahmaaGreatDoorSt
namespace Go.Proofs.YtheochfpidahmaaGreatDoor
open Go.Sort

/-- Does a run of keys begin at place i of the row? -/
def headAt (K : Nat → Int) (d : Array Nat) (i : Nat) : Bool := decide (i = 0 ∨ K d[i - 1]! ≠ K d[i]!)
/-- What stands at the runs' beginnings, among the first i places. -/
def headsK (K : Nat → Int) (d : Array Nat) : Nat → List Nat
  | 0 => []
  | i + 1 => if headAt K d i then headsK K d i ++ [d[i]!] else headsK K d i
theorem headsK_yes {K : Nat → Int} {d : Array Nat} {i : Nat} (h : headAt K d i = true) : headsK K d (i + 1) = headsK K d i ++ [d[i]!] := by rw [headsK, if_pos h]
theorem headsK_no {K : Nat → Int} {d : Array Nat} {i : Nat} (h : headAt K d i = false) : headsK K d (i + 1) = headsK K d i := by rw [headsK, if_neg (by rw [h]; simp)]
theorem headsK_len (K : Nat → Int) (d : Array Nat) : ∀ i, (headsK K d i).length ≤ i
  | 0 => by simp [headsK]
  | i + 1 => by
    have := headsK_len K d i
    rw [headsK]
    split
    · simp; omega
    · omega

section
variable {K : Nat → Int} {d : Array Nat} {n : Nat}
theorem key_mono (hS : SortedIn (tlK K) 0 n d) {p q : Nat} (h1 : p ≤ q) (h2 : q < n) : K d[p]! ≤ K d[q]! := by
  have := s_le hS (Nat.zero_le _) h1 h2
  simp only [tlK, decide_eq_false_iff_not] at this
  omega
theorem place_mono (hS : SortedIn (tlK K) 0 n d) {p q : Nat} (h1 : p ≤ q) (h2 : q < n) (e : K d[p]! = K d[q]!) : d[p]! ≤ d[q]! := by
  have := s_le hS (Nat.zero_le _) h1 h2
  simp only [tlK, decide_eq_false_iff_not] at this
  omega
theorem perm_has (hP : PermIn 0 n (Array.range n) d) {y : Nat} (hy : y < n) : ∃ q, q < n ∧ d[q]! = y := by
  have hs : n ≤ d.size := by rw [hP.1]; simp
  have h1 := hP.2.2.mem_iff (a := y)
  rw [extract_toList d 0 n hs, extract_toList (Array.range n) 0 n (by simp)] at h1
  obtain ⟨q, hq, e⟩ := List.mem_map.1 (h1.2 (List.mem_map.2 ⟨y, List.mem_range'_1.2 ⟨Nat.zero_le _, by omega⟩, by rw [getElem!_pos _ _ (by simpa using hy)]; simp⟩))
  have := List.mem_range'_1.1 hq
  exact ⟨q, by omega, e⟩
theorem perm_below (hP : PermIn 0 n (Array.range n) d) : ∀ t, t < n → d[t]! < n := fun t ht =>
  permIn_all (Array.range n) d 0 n (· < n) (by simp) hP (fun i _ hi => by rw [getElem!_pos _ _ (by simpa using hi)]; simpa using hi) t (Nat.zero_le _) ht

theorem heads_shape : ∀ i, ∀ x ∈ headsK K d i, ∃ p, p < i ∧ x = d[p]! ∧ headAt K d p = true
  | 0, x, h => by simp [headsK] at h
  | i + 1, x, h => by
    rw [headsK] at h
    split at h
    · rename_i hh
      rcases List.mem_append.1 h with h | h
      · obtain ⟨p, h1, h2, h3⟩ := heads_shape i x h
        exact ⟨p, by omega, h2, h3⟩
      · exact ⟨i, by omega, by simpa using h, hh⟩
    · obtain ⟨p, h1, h2, h3⟩ := heads_shape i x h
      exact ⟨p, by omega, h2, h3⟩

theorem heads_up (hS : SortedIn (tlK K) 0 n d) : ∀ i, i ≤ n → (headsK K d i).Pairwise fun x y => K x < K y
  | 0, _ => by simp [headsK]
  | i + 1, hi => by
    rw [headsK]
    split
    · rename_i hh
      refine List.pairwise_append.2 ⟨heads_up hS i (by omega), by simp, fun x hx y hy => ?_⟩
      obtain ⟨p, h1, rfl, _⟩ := heads_shape i x hx
      obtain rfl : y = d[i]! := by simpa using hy
      have a := key_mono hS (p := p) (q := i - 1) (by omega) (by omega)
      have b := key_mono hS (p := i - 1) (q := i) (by omega) (by omega)
      have c : K d[i - 1]! ≠ K d[i]! := by
        have := of_decide_eq_true hh
        rcases this with h | h
        · omega
        · exact h
      omega
    · exact heads_up hS i (by omega)

theorem heads_first (hS : SortedIn (tlK K) 0 n d) (hP : PermIn 0 n (Array.range n) d) : ∀ x ∈ headsK K d n, x < n ∧ ∀ y, y < n → K y = K x → x ≤ y := fun x hx => by
  obtain ⟨p, h1, rfl, hh⟩ := heads_shape n x hx
  refine ⟨perm_below hP p h1, fun y hy e => ?_⟩
  obtain ⟨q, hq, rfl⟩ := perm_has hP hy
  by_cases c : p ≤ q
  · exact place_mono hS c hq e.symm
  · exfalso
    have a := key_mono hS (p := q) (q := p - 1) (by omega) (by omega)
    have b := key_mono hS (p := p - 1) (q := p) (by omega) h1
    have := of_decide_eq_true hh
    rcases this with h | h
    · omega
    · omega

theorem heads_grow {x : Nat} (i : Nat) : ∀ m, x ∈ headsK K d i → x ∈ headsK K d (i + m)
  | 0, h => h
  | m + 1, h => by
    have := heads_grow i m h
    rw [← Nat.add_assoc, headsK]
    split
    · exact List.mem_append_left _ this
    · exact this
theorem heads_cover : ∀ q, ∃ x ∈ headsK K d (q + 1), K x = K d[q]!
  | 0 => ⟨d[0]!, by simp [headsK, headAt], rfl⟩
  | q + 1 => by
    cases h : headAt K d (q + 1) with
    | true => exact ⟨d[q + 1]!, by rw [headsK_yes h]; simp, rfl⟩
    | false =>
      obtain ⟨x, hx, e⟩ := heads_cover q
      refine ⟨x, by rw [headsK_no h]; exact hx, e.trans ?_⟩
      have := of_decide_eq_false h
      simp only [not_or, Nat.add_sub_cancel, Decidable.not_not] at this
      exact this.2
theorem heads_all (hP : PermIn 0 n (Array.range n) d) {y : Nat} (hy : y < n) : ∃ x ∈ headsK K d n, K x = K y := by
  obtain ⟨q, hq, rfl⟩ := perm_has hP hy
  obtain ⟨x, hx, e⟩ := heads_cover (K := K) (d := d) q
  refine ⟨x, ?_, e⟩
  have := heads_grow (q + 1) (n - (q + 1)) hx
  rwa [show q + 1 + (n - (q + 1)) = n by omega] at this
end

/-- Two ascending rows with the same members are one. -/
theorem up_unique : ∀ (a b : List Int), a.Pairwise (· < ·) → b.Pairwise (· < ·) → (∀ x, x ∈ a ↔ x ∈ b) → a = b
  | [], [], _, _, _ => rfl
  | [], y :: b, _, _, h => by have := (h y).2 (by simp); simp at this
  | x :: a, [], _, _, h => by have := (h x).1 (by simp); simp at this
  | x :: a, y :: b, ha, hb, h => by
    have pa := List.pairwise_cons.1 ha
    have pb := List.pairwise_cons.1 hb
    have e : x = y := by
      have h1 : x ∈ y :: b := (h x).1 (by simp)
      have h2 : y ∈ x :: a := (h y).2 (by simp)
      rcases List.mem_cons.1 h1 with h1 | h1
      · exact h1
      · rcases List.mem_cons.1 h2 with h2 | h2
        · exact h2.symm
        · have := pb.1 x h1
          have := pa.1 y h2
          omega
    subst e
    congr 1
    refine up_unique a b pa.2 pb.2 fun z => ⟨fun hz => ?_, fun hz => ?_⟩
    · rcases List.mem_cons.1 ((h z).1 (List.mem_cons_of_mem _ hz)) with h1 | h1
      · have := pa.1 z hz; omega
      · exact h1
    · rcases List.mem_cons.1 ((h z).2 (List.mem_cons_of_mem _ hz)) with h1 | h1
      · have := pb.1 z hz; omega
      · exact h1
end Go.Proofs.YtheochfpidahmaaGreatDoor
