/-
  A stable sort by merging in place: the plain theory (stretches exchanged, rotations, the merge's halves, blocks); no program.
-/
import Derived.Sort.LotA
namespace Go.Proofs.YtheochfpidahmaaGreatDoor
open Go.Sort

/-- Less by key. -/
def ltK (K : Nat → Int) (x y : Nat) : Bool := decide (K x < K y)
/-- Less by key, then by place. -/
def tlK (K : Nat → Int) (x y : Nat) : Bool := decide (K x < K y ∨ (K x = K y ∧ x < y))
theorem swo_tl (K : Nat → Int) : SWO (tlK K) where
  irrefl x := by simp only [tlK, decide_eq_false_iff_not]; omega
  trans x y z := by simp only [tlK, decide_eq_true_eq]; omega
  ntrans x y z := by simp only [tlK, decide_eq_false_iff_not]; omega
theorem lt_tl {K : Nat → Int} {x y : Nat} (h : x < y) : ltK K y x = tlK K y x := by
  unfold ltK tlK
  exact decide_eq_decide.2 (by omega)
theorem at_eq (d : Array Nat) {s t : Nat} (h : s = t) : d[s]! = d[t]! := by rw [h]

/-- Two stretches exchanged: what lies at t. -/
def swAt (d : Array Nat) (a b n t : Nat) : Nat := if a ≤ t ∧ t < a + n then d[b + (t - a)]! else if b ≤ t ∧ t < b + n then d[a + (t - b)]! else d[t]!
/-- The stretches [a, m) and [m, b) in the other order: what lies at t. -/
def rotAt (d : Array Nat) (a m b t : Nat) : Nat := if a ≤ t ∧ t < b then (if t < a + (b - m) then d[t + (m - a)]! else d[t - (b - m)]!) else d[t]!

theorem swAt_zero (d : Array Nat) (a b t : Nat) : swAt d a b 0 t = d[t]! := by
  unfold swAt
  repeat' split
  all_goals first | (exfalso; omega) | rfl
theorem swAt_succ (d dk : Array Nat) (a b n : Nat) (h : ∀ t, dk[t]! = swAt d a b n t) (hab : a + n < b ∨ b + n < a) (h1 : a + n < dk.size) (h2 : b + n < dk.size) : ∀ t, (swp dk (a + n) (b + n))[t]! = swAt d a b (n + 1) t := by
  intro t
  by_cases e1 : t = a + n
  · subst e1
    rw [swp_left dk _ _ h1 (by omega), h]
    unfold swAt
    repeat' split
    all_goals first | (exfalso; omega) | exact at_eq d (by omega)
  · by_cases e2 : t = b + n
    · subst e2
      rw [swp_right dk _ _ h2, h]
      unfold swAt
      repeat' split
      all_goals first | (exfalso; omega) | exact at_eq d (by omega)
    · rw [swp_other dk _ _ _ e1 e2, h]
      unfold swAt
      repeat' split
      all_goals first | (exfalso; omega) | exact at_eq d (by omega)

theorem rot_left (d dk : Array Nat) (m i j : Nat) (h : ∀ t, dk[t]! = swAt d (m - i) m j t) (him : i ≤ m) (hij : j < i) (t : Nat) : rotAt dk (m - (i - j)) m (m + j) t = rotAt d (m - i) m (m + j) t := by
  unfold rotAt
  simp only [h]
  unfold swAt
  repeat' split
  all_goals first | (exfalso; omega) | exact at_eq d (by omega)
theorem rot_right (d dk : Array Nat) (m i j : Nat) (h : ∀ t, dk[t]! = swAt d (m - i) (m + j - i) i t) (him : i ≤ m) (hij : i < j) (t : Nat) : rotAt dk (m - i) m (m + (j - i)) t = rotAt d (m - i) m (m + j) t := by
  unfold rotAt
  simp only [h]
  unfold swAt
  repeat' split
  all_goals first | (exfalso; omega) | exact at_eq d (by omega)
theorem rot_mid (d dk : Array Nat) (m i : Nat) (h : ∀ t, dk[t]! = swAt d (m - i) m i t) (him : i ≤ m) (t : Nat) : dk[t]! = rotAt d (m - i) m (m + i) t := by
  rw [h]
  unfold rotAt swAt
  repeat' split
  all_goals first | (exfalso; omega) | exact at_eq d (by omega)
theorem rot_none1 (d : Array Nat) (m b t : Nat) : rotAt d m m b t = d[t]! := by
  unfold rotAt
  repeat' split
  all_goals first | (exfalso; omega) | exact at_eq d (by omega)
theorem rot_none2 (d : Array Nat) (a m t : Nat) : rotAt d a m m t = d[t]! := by
  unfold rotAt
  repeat' split
  all_goals first | (exfalso; omega) | exact at_eq d (by omega)

/-- One more to the right: the element of place a wanders from k to k + 1. -/
theorem wander_right (d dk : Array Nat) (a k : Nat) (hak : a ≤ k) (h : ∀ t, dk[t]! = rotAt d a (a + 1) (k + 1) t) (hs : k + 1 < dk.size) (t : Nat) : (swp dk k (k + 1))[t]! = rotAt d a (a + 1) (k + 2) t := by
  by_cases e1 : t = k
  · subst e1
    rw [swp_left dk _ _ (by omega) (by omega), h]
    unfold rotAt
    repeat' split
    all_goals first | (exfalso; omega) | exact at_eq d (by omega)
  · by_cases e2 : t = k + 1
    · subst e2
      rw [swp_right dk _ _ hs, h]
      unfold rotAt
      repeat' split
      all_goals first | (exfalso; omega) | exact at_eq d (by omega)
    · rw [swp_other dk _ _ _ e1 e2, h]
      unfold rotAt
      repeat' split
      all_goals first | (exfalso; omega) | exact at_eq d (by omega)
/-- One more to the left: the element of place m wanders from k + 1 to k. -/
theorem wander_left (d dk : Array Nat) (m k : Nat) (hkm : k < m) (h : ∀ t, dk[t]! = rotAt d (k + 1) m (m + 1) t) (hs : k + 1 < dk.size) (t : Nat) : (swp dk (k + 1) k)[t]! = rotAt d k m (m + 1) t := by
  by_cases e1 : t = k + 1
  · subst e1
    rw [swp_left dk _ _ (by omega) (by omega), h]
    unfold rotAt
    repeat' split
    all_goals first | (exfalso; omega) | exact at_eq d (by omega)
  · by_cases e2 : t = k
    · subst e2
      rw [swp_right dk _ _ (by omega), h]
      unfold rotAt
      repeat' split
      all_goals first | (exfalso; omega) | exact at_eq d (by omega)
    · rw [swp_other dk _ _ _ e1 e2, h]
      unfold rotAt
      repeat' split
      all_goals first | (exfalso; omega) | exact at_eq d (by omega)

section
variable {K : Nat → Int} {d d' : Array Nat}

theorem s_le {lo hi : Nat} (h : SortedIn (tlK K) lo hi d) {p q : Nat} (h1 : lo ≤ p) (h2 : p ≤ q) (h3 : q < hi) : tlK K d[q]! d[p]! = false := by
  rcases Nat.lt_or_eq_of_le h2 with h4 | rfl
  · exact h p q h1 h4 h3
  · exact (swo_tl K).irrefl _

/-- All of [a, m) come ahead of all of [m, b) by their places. -/
def Ahead (a m b : Nat) (d : Array Nat) : Prop := ∀ p q, a ≤ p → p < m → m ≤ q → q < b → d[p]! < d[q]!

theorem merge_one_left {a b i : Nat} (hS : SortedIn (tlK K) (a + 1) b d) (hA : Ahead a (a + 1) b d) (hi1 : a + 1 ≤ i) (hi2 : i ≤ b)
    (hl : i = a + 1 ∨ ltK K d[i - 1]! d[a]! = true) (hr : i = b ∨ ltK K d[i]! d[a]! = false) (h : ∀ t, d'[t]! = rotAt d a (a + 1) i t) : SortedIn (tlK K) a b d' := by
  have lo : ∀ p, a + 1 ≤ p → p < i → tlK K d[a]! d[p]! = false := fun p h1 h2 => by
    rcases hl with hl | hl
    · exfalso; omega
    · rw [lt_tl (hA a (i - 1) (by omega) (by omega) (by omega) (by omega))] at hl
      exact (swo_tl K).ntrans _ _ _ (SWO.asymmA (swo_tl K) hl) (s_le hS h1 (by omega) (by omega))
  have hi : ∀ q, i ≤ q → q < b → tlK K d[q]! d[a]! = false := fun q h1 h2 => by
    rcases hr with hr | hr
    · exfalso; omega
    · rw [lt_tl (hA a i (by omega) (by omega) (by omega) (by omega))] at hr
      exact (swo_tl K).ntrans _ _ _ (s_le hS (by omega) h1 h2) hr
  intro p q hp hpq hq
  rw [h p, h q]
  unfold rotAt
  repeat' split
  all_goals first
    | (exfalso; omega)
    | exact s_le hS (by omega) (by omega) (by omega)
    | (rw [at_eq d (show q - (i - (a + 1)) = a by omega)]; exact lo _ (by omega) (by omega))
    | (rw [at_eq d (show p - (i - (a + 1)) = a by omega)]; exact hi _ (by omega) (by omega))

theorem merge_one_right {a m i : Nat} (hS : SortedIn (tlK K) a m d) (hA : Ahead a m (m + 1) d) (hi1 : a ≤ i) (hi2 : i ≤ m)
    (hl : i = a ∨ ltK K d[m]! d[i - 1]! = false) (hr : i = m ∨ ltK K d[m]! d[i]! = true) (h : ∀ t, d'[t]! = rotAt d i m (m + 1) t) : SortedIn (tlK K) a (m + 1) d' := by
  have lo : ∀ p, a ≤ p → p < i → tlK K d[m]! d[p]! = false := fun p h1 h2 => by
    rcases hl with hl | hl
    · exfalso; omega
    · rw [lt_tl (hA (i - 1) m (by omega) (by omega) (by omega) (by omega))] at hl
      exact (swo_tl K).ntrans _ _ _ hl (s_le hS h1 (by omega) (by omega))
  have hi : ∀ q, i ≤ q → q < m → tlK K d[q]! d[m]! = false := fun q h1 h2 => by
    rcases hr with hr | hr
    · exfalso; omega
    · rw [lt_tl (hA i m (by omega) (by omega) (by omega) (by omega))] at hr
      exact (swo_tl K).ntrans _ _ _ (s_le hS (by omega) h1 h2) (SWO.asymmA (swo_tl K) hr)
  intro p q hp hpq hq
  rw [h p, h q]
  unfold rotAt
  repeat' split
  all_goals first
    | (exfalso; omega)
    | exact s_le hS (by omega) (by omega) (by omega)
    | (rw [at_eq d (show q + (m - i) = m by omega)]; exact lo _ (by omega) (by omega))
    | (rw [at_eq d (show p + (m - i) = m by omega)]; exact hi _ (by omega) (by omega))

/-- The merge's cut: what is known behind the search and the rotation. -/
structure Cut (K : Nat → Int) (a m b mid s e : Nat) (d d' : Array Nat) : Prop where
  s1 : SortedIn (tlK K) a s d'
  s2 : SortedIn (tlK K) s mid d'
  s3 : SortedIn (tlK K) mid e d'
  s4 : SortedIn (tlK K) e b d'
  o1 : Ahead a s mid d'
  o2 : Ahead mid e b d'
  x : ∀ p q, a ≤ p → p < mid → mid ≤ q → q < b → tlK K d'[q]! d'[p]! = false

theorem cut_of {a m b mid s e lo hi : Nat} (h1 : SortedIn (tlK K) a m d) (h2 : SortedIn (tlK K) m b d) (hA : Ahead a m b d)
    (has : a ≤ s) (hsm : s ≤ m) (hsd : s ≤ mid) (hse : s + e = mid + m) (heb : e ≤ b) (hlo : lo = a ∨ lo + b = mid + m) (hhi : hi = mid ∨ hi = m)
    (hl : s = lo ∨ ltK K d[e]! d[s - 1]! = false) (hr : s = hi ∨ ltK K d[e - 1]! d[s]! = true) (h : ∀ t, d'[t]! = rotAt d s m e t) : Cut K a m b mid s e d d' := by
  have lowhigh : ∀ p q, a ≤ p → p < s → e ≤ q → q < b → tlK K d[q]! d[p]! = false := fun p q a1 a2 a3 a4 => by
    rcases hl with hl | hl
    · exfalso; omega
    · rw [lt_tl (hA (s - 1) e (by omega) (by omega) (by omega) (by omega))] at hl
      exact (swo_tl K).ntrans _ _ _ (s_le h2 (by omega) a3 a4) ((swo_tl K).ntrans _ _ _ hl (s_le h1 a1 (by omega) (by omega)))
  have highlow : ∀ x y, m ≤ x → x < e → s ≤ y → y < m → tlK K d[y]! d[x]! = false := fun x y a1 a2 a3 a4 => by
    rcases hr with hr | hr
    · exfalso; omega
    · rw [lt_tl (hA s (e - 1) (by omega) (by omega) (by omega) (by omega))] at hr
      exact (swo_tl K).ntrans _ _ _ (s_le h1 has a3 a4) ((swo_tl K).ntrans _ _ _ (SWO.asymmA (swo_tl K) hr) (s_le h2 a1 (by omega) (by omega)))
  refine ⟨?_, ?_, ?_, ?_, ?_, ?_, ?_⟩
  · intro p q hp hpq hq
    rw [h p, h q]
    unfold rotAt
    repeat' split
    all_goals first
      | (exfalso; omega)
      | exact s_le h1 (by omega) (by omega) (by omega)
  · intro p q hp hpq hq
    rw [h p, h q]
    unfold rotAt
    repeat' split
    all_goals first
      | (exfalso; omega)
      | exact s_le h2 (by omega) (by omega) (by omega)
  · intro p q hp hpq hq
    rw [h p, h q]
    unfold rotAt
    repeat' split
    all_goals first
      | (exfalso; omega)
      | exact s_le h1 (by omega) (by omega) (by omega)
  · intro p q hp hpq hq
    rw [h p, h q]
    unfold rotAt
    repeat' split
    all_goals first
      | (exfalso; omega)
      | exact s_le h2 (by omega) (by omega) (by omega)
  · intro p q hp hpq hq hq2
    rw [h p, h q]
    unfold rotAt
    repeat' split
    all_goals first
      | (exfalso; omega)
      | exact hA _ _ (by omega) (by omega) (by omega) (by omega)
  · intro p q hp hpq hq hq2
    rw [h p, h q]
    unfold rotAt
    repeat' split
    all_goals first
      | (exfalso; omega)
      | exact hA _ _ (by omega) (by omega) (by omega) (by omega)
  · intro p q hp hpq hq hq2
    rw [h p, h q]
    unfold rotAt
    repeat' split
    all_goals first
      | (exfalso; omega)
      | exact s_le h1 (by omega) (by omega) (by omega)
      | exact s_le h2 (by omega) (by omega) (by omega)
      | exact lowhigh _ _ (by omega) (by omega) (by omega) (by omega)
      | exact highlow _ _ (by omega) (by omega) (by omega) (by omega)

theorem sorted_frame {lo hi : Nat} (h : SortedIn (tlK K) lo hi d) (e : ∀ t, lo ≤ t → t < hi → d'[t]! = d[t]!) : SortedIn (tlK K) lo hi d' := fun i j h1 h2 h3 => by
  rw [e i h1 (by omega), e j (by omega) h3]
  exact h i j h1 h2 h3
theorem ahead_frame {a m b : Nat} (h : Ahead a m b d) (e : ∀ t, a ≤ t → t < b → d'[t]! = d[t]!) : Ahead a m b d' := fun p q h1 h2 h3 h4 => by
  rw [e p h1 (by omega), e q (by omega) h4]
  exact h p q h1 h2 h3 h4
/-- Two sorted halves, the first nowhere above the second. -/
theorem sorted_join {a m b : Nat} (h1 : SortedIn (tlK K) a m d) (h2 : SortedIn (tlK K) m b d) (x : ∀ p q, a ≤ p → p < m → m ≤ q → q < b → tlK K d[q]! d[p]! = false) : SortedIn (tlK K) a b d := fun i j q1 q2 q3 => by
  by_cases c1 : j < m
  · exact h1 i j q1 q2 c1
  · by_cases c2 : m ≤ i
    · exact h2 i j c2 q2 q3
    · exact x i j q1 (by omega) (by omega) q3
/-- A part of what is permuted, in two steps, keeps what holds of every pair. -/
theorem cross_perm {a m b : Nat} {d1 d2 : Array Nat} (hb : b ≤ d.size) (hm : m ≤ b) (p1 : PermIn a m d d1) (p2 : PermIn m b d1 d2)
    (x : ∀ p q, a ≤ p → p < m → m ≤ q → q < b → tlK K d[q]! d[p]! = false) : ∀ p q, a ≤ p → p < m → m ≤ q → q < b → tlK K d2[q]! d2[p]! = false := by
  have s1 : d1.size = d.size := p1.1
  have y : ∀ q, m ≤ q → q < b → ∀ p, a ≤ p → p < m → tlK K d1[q]! d1[p]! = false := fun q h3 h4 => by
    rw [p1.2.1 q (.inr h3)]
    exact permIn_all d d1 a m (fun v => tlK K d[q]! v = false) (by omega) p1 fun p h1 h2 => x p q h1 h2 h3 h4
  intro p q h1 h2 h3 h4
  rw [p2.2.1 p (.inl h2)]
  exact permIn_all d1 d2 m b (fun v => tlK K v d1[p]! = false) (by omega) p2 (fun q h3 h4 => y q h3 h4 p h1 h2) q h3 h4

/-! ### The insertion sort, stably -/
theorem insInner_perm (lt : Nat → Nat → Bool) (a b : Nat) : ∀ (j : Nat) (d : Array Nat), j < b → b ≤ d.size → PermIn a b d (insInner lt a j d)
  | 0, d, _, _ => permIn_refl d a b
  | j + 1, d, hj, hb => by
    unfold insInner
    split
    · rename_i hc
      have hc' : a ≤ j := by
        have := (Bool.and_eq_true _ _ ▸ hc).1
        have := of_decide_eq_true this
        omega
      exact permIn_trans d _ _ a b (swp_permIn d a b (j + 1) j (by omega) hj hc' (by omega) hb) (insInner_perm lt a b j _ (by omega) (by rw [size_swp]; exact hb))
    · exact permIn_refl d a b
theorem insInner_eq (K : Nat → Int) (a : Nat) : ∀ (j : Nat) (d : Array Nat), j < d.size → (∀ p, a ≤ p → p < j → d[p]! < d[j]!) → insInner (ltK K) a j d = insInner (tlK K) a j d
  | 0, _, _, _ => rfl
  | j + 1, d, hj, h => by
    unfold insInner
    by_cases ha : a ≤ j
    · rw [lt_tl (h j ha (by omega))]
      split
      · refine insInner_eq K a j _ (by rw [size_swp]; omega) fun p h1 h2 => ?_
        rw [swp_other d _ _ p (by omega) (by omega), swp_right d _ _ (by omega)]
        exact h p h1 (by omega)
      · rfl
    · have e : decide (j + 1 > a) = false := decide_eq_false (by omega)
      rw [e]
      rfl
theorem insOuter_eq (K : Nat → Int) (a b : Nat) : ∀ (r i : Nat) (d : Array Nat), b - i = r → a ≤ i → b ≤ d.size → (∀ p q, a ≤ p → p < q → i ≤ q → q < b → d[p]! < d[q]!) → insOuter (ltK K) a b i d = insOuter (tlK K) a b i d
  | 0, i, d, hr, _, _, _ => by
    rw [insOuter.eq_def (ltK K), insOuter.eq_def (tlK K), if_neg (by omega), if_neg (by omega)]
  | r + 1, i, d, hr, ha, hb, h => by
    rw [insOuter.eq_def (ltK K), insOuter.eq_def (tlK K), if_pos (by omega), if_pos (by omega), insInner_eq K a i d (by omega) fun p h1 h2 => h p i h1 h2 (Nat.le_refl _) (by omega)]
    have P := insInner_perm (tlK K) a (i + 1) i d (by omega) (by omega)
    refine insOuter_eq K a b r (i + 1) _ (by omega) (by omega) (by rw [P.1]; exact hb) fun p q h1 h2 h3 h4 => ?_
    rw [P.2.1 q (.inr h3)]
    by_cases hp : p < i + 1
    · exact permIn_all d _ a (i + 1) (fun v => v < d[q]!) (by omega) P (fun p h5 h6 => h p q h5 (by omega) (by omega) h4) p h1 hp
    · rw [P.2.1 p (.inr (by omega))]
      exact h p q h1 h2 (by omega) h4
theorem insertion_eq (K : Nat → Int) (a b : Nat) (d : Array Nat) (hb : b ≤ d.size) (h : ∀ t, a ≤ t → t < b → d[t]! = t) : Go.Sort.insertionSort (ltK K) d a b = Go.Sort.insertionSort (tlK K) d a b := by
  unfold Go.Sort.insertionSort
  refine insOuter_eq K a b _ (a + 1) d rfl (by omega) hb fun p q h1 h2 h3 h4 => ?_
  rw [h p h1 (by omega), h q (by omega) h4]
  exact h2

/-! ### Blocks -/
/-- A sorted block that holds just its own places. -/
def Seg (K : Nat → Int) (d : Array Nat) (lo hi : Nat) : Prop := SortedIn (tlK K) lo hi d ∧ ∀ t, lo ≤ t → t < hi → lo ≤ d[t]! ∧ d[t]! < hi
theorem Seg.frame {lo hi : Nat} (h : Seg K d lo hi) (e : ∀ t, lo ≤ t → t < hi → d'[t]! = d[t]!) : Seg K d' lo hi :=
  ⟨sorted_frame h.1 e, fun t h1 h2 => by rw [e t h1 h2]; exact h.2 t h1 h2⟩
theorem Seg.ahead {a m b : Nat} (h1 : Seg K d a m) (h2 : Seg K d m b) : Ahead a m b d := fun p q a1 a2 a3 a4 => by
  have := (h1.2 p a1 a2).2
  have := (h2.2 q a3 a4).1
  omega
theorem Seg.merged {a m b : Nat} (h1 : Seg K d a m) (h2 : Seg K d m b) (ham : a ≤ m) (hmb : m ≤ b) (hb : b ≤ d.size) (hP : PermIn a b d d') (hS : SortedIn (tlK K) a b d') : Seg K d' a b :=
  ⟨hS, permIn_all d d' a b (fun v => a ≤ v ∧ v < b) hb hP fun t a1 a2 => by
    by_cases c : t < m
    · have := h1.2 t a1 c; omega
    · have := h2.2 t (by omega) a2; omega⟩
/-- Sorted blocks of length bs from s to n; the last one may be shorter. -/
inductive Segs (K : Nat → Int) (d : Array Nat) (bs n : Nat) : Nat → Prop
  | done {s : Nat} : n ≤ s → Segs K d bs n s
  | step {s : Nat} : s < n → Seg K d s (min (s + bs) n) → Segs K d bs n (s + bs) → Segs K d bs n s
/-- Whole sorted blocks of length bs up to s. -/
inductive Pre (K : Nat → Int) (d : Array Nat) (bs : Nat) : Nat → Prop
  | nil : Pre K d bs 0
  | snoc {s : Nat} : Pre K d bs s → Seg K d s (s + bs) → Pre K d bs (s + bs)
theorem Segs.frame {bs n s : Nat} (h : Segs K d bs n s) : (∀ t, s ≤ t → d'[t]! = d[t]!) → Segs K d' bs n s := by
  induction h with
  | done h => intro _; exact .done h
  | step h1 h2 _ ih => intro e; exact .step h1 (h2.frame fun t a _ => e t a) (ih fun t a => e t (by omega))
theorem Pre.frame {bs s : Nat} (h : Pre K d bs s) : (∀ t, t < s → d'[t]! = d[t]!) → Pre K d' bs s := by
  induction h with
  | nil => intro _; exact .nil
  | snoc _ h2 ih => intro e; exact .snoc (ih fun t a => e t (by omega)) (h2.frame fun t _ a => e t a)
theorem Pre.join {bs n s : Nat} (hbs : 0 < bs) (h : Pre K d bs s) : s ≤ n → Segs K d bs n s → Segs K d bs n 0 := by
  induction h with
  | nil => intro _ h; exact h
  | @snoc s' h1 h2 ih => intro hn h; exact ih (by omega) (.step (by omega) (by rw [show min (s' + bs) n = s' + bs by omega]; exact h2) h)
theorem Segs.two {bs n s : Nat} (h : Segs K d bs n s) (hn : s + bs < n) : Seg K d s (s + bs) ∧ Seg K d (s + bs) (min (s + bs + bs) n) ∧ Segs K d bs n (s + bs + bs) := by
  cases h with
  | done h => exfalso; omega
  | step h1 h2 h3 =>
    cases h3 with
    | done h => exfalso; omega
    | step h4 h5 h6 => exact ⟨by rw [show min (s + bs) n = s + bs by omega] at h2; exact h2, h5, h6⟩
theorem Segs.one {bs n s : Nat} (h : Segs K d bs n s) (h1 : s < n) (h2 : n ≤ s + bs) : Seg K d s n := by
  cases h with
  | done h => exfalso; omega
  | step _ h3 _ => rw [show min (s + bs) n = n by omega] at h3; exact h3
end
end Go.Proofs.YtheochfpidahmaaGreatDoor
