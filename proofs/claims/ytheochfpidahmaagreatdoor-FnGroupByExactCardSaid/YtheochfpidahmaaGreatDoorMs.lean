/-
  The law's own merge sort of a row of ints: the plain theory (chunks, merged two by two); no program.
-/
import Derived.Sort.LotA
namespace Go.Proofs.YtheochfpidahmaaGreatDoor

def leI (a b : Int) : Bool := decide (a ≤ b)
/-- Ascending, equals let in. -/
def Up (l : List Int) : Prop := l.Pairwise fun a b => leI a b = true
/-- Two rows merged, the left one first at equals. -/
def mg (l r : List Int) : List Int := List.merge l r leI
theorem mg_nil_left (r : List Int) : mg [] r = r := by simp [mg]
theorem mg_nil_right (l : List Int) : mg l [] = l := by simp [mg]
theorem mg_take_left {x y : Int} (l r : List Int) (h : ¬ y < x) : mg (x :: l) (y :: r) = x :: mg l (y :: r) := by
  unfold mg
  rw [List.cons_merge_cons, if_pos (by unfold leI; exact decide_eq_true (by omega))]
theorem mg_take_right {x y : Int} (l r : List Int) (h : y < x) : mg (x :: l) (y :: r) = y :: mg (x :: l) r := by
  unfold mg
  rw [List.cons_merge_cons, if_neg (by unfold leI; rw [decide_eq_true_eq]; omega)]
theorem mg_perm (l r : List Int) : (mg l r).Perm (l ++ r) := List.merge_perm_append _
theorem leI_trans (a b c : Int) (h1 : leI a b = true) (h2 : leI b c = true) : leI a c = true := by
  unfold leI at *
  rw [decide_eq_true_eq] at *
  omega
theorem leI_total (a b : Int) : (leI a b || leI b a) = true := by
  unfold leI
  rw [Bool.or_eq_true, decide_eq_true_eq, decide_eq_true_eq]
  omega
theorem mg_up {l r : List Int} (h1 : Up l) (h2 : Up r) : Up (mg l r) := List.pairwise_merge leI_trans leI_total l r h1 h2
theorem up_of_short {l : List Int} (h : l.length ≤ 1) : Up l := by
  match l, h with
  | [], _ => exact List.Pairwise.nil
  | [x], _ => exact List.pairwise_singleton _ _

/-- Ascending chunks of length w; the last may be shorter. -/
inductive Ch (w : Nat) : List Int → Prop
  | last (l : List Int) : l.length ≤ w → Up l → Ch w l
  | more (l r : List Int) : l.length = w → Up l → Ch w r → Ch w (l ++ r)
theorem ch_one : ∀ l : List Int, Ch 1 l
  | [] => .last [] (by simp) List.Pairwise.nil
  | x :: l => .more [x] l rfl (up_of_short (by simp)) (ch_one l)
theorem Ch.split {w : Nat} {l : List Int} (h : Ch w l) : Up (l.take w) ∧ Ch w (l.drop w) := by
  cases h with
  | last _ h1 h2 => exact ⟨by rw [List.take_of_length_le h1]; exact h2, by rw [List.drop_of_length_le h1]; exact .last [] (by simp) List.Pairwise.nil⟩
  | more l1 r h1 h2 h3 => subst h1; exact ⟨by simpa using h2, by simpa using h3⟩
theorem Ch.whole {w : Nat} {l : List Int} (h : Ch w l) (hl : l.length ≤ w) : Up l := by
  have := h.split.1
  rwa [List.take_of_length_le hl] at this
/-- Whole ascending chunks. -/
inductive Pc (w : Nat) : List Int → Prop
  | nil : Pc w []
  | snoc (p m : List Int) : Pc w p → m.length = w → Up m → Pc w (p ++ m)
theorem Pc.join {w : Nat} {p : List Int} (h : Pc w p) : ∀ {r : List Int}, Ch w r → Ch w (p ++ r) := by
  induction h with
  | nil => intro r hr; exact hr
  | snoc p m _ h2 h3 ih => intro r hr; rw [List.append_assoc]; exact ih (.more m r h2 h3 hr)

/-- A stretch of a row. -/
def seg (A : List Int) (i j : Nat) : List Int := (A.drop i).take (j - i)
theorem seg_nil (A : List Int) {i j : Nat} (h : j ≤ i) : seg A i j = [] := by
  unfold seg; rw [show j - i = 0 by omega, List.take_zero]
theorem seg_cons {A : List Int} {i j : Nat} (h : i < j) (hj : j ≤ A.length) : seg A i j = A[i]'(by omega) :: seg A (i + 1) j := by
  unfold seg
  rw [List.drop_eq_getElem_cons (by omega : i < A.length), show j - i = (j - (i + 1)) + 1 by omega, List.take_succ_cons]
theorem take_set_succ {B : List Int} {k : Nat} (v : Int) (h : k < B.length) : (B.set k v).take (k + 1) = B.take k ++ [v] := by
  rw [List.take_succ_eq_append_getElem (by simpa using h)]
  simp [List.take_set_of_le]

/-- One chunk's merge, under way: what has been written, and what is still to come. -/
def Mid (A B T : List Int) (i mid j hi k : Nat) : Prop := B.take k ++ mg (seg A i mid) (seg A j hi) = T
theorem Mid.right {A B T : List Int} {i mid j hi k : Nat} (h : Mid A B T i mid j hi k) (hi1 : i < mid) (hj1 : j < hi) (hm : mid ≤ A.length) (hh : hi ≤ A.length) (hk : k < B.length) (c : A[j]'(by omega) < A[i]'(by omega)) :
    Mid A (B.set k (A[j]'(by omega))) T i mid (j + 1) hi (k + 1) := by
  unfold Mid at *
  rw [take_set_succ _ hk, List.append_assoc, ← h, seg_cons hi1 hm, seg_cons hj1 hh, mg_take_right _ _ c, ← seg_cons hi1 hm]
  rfl
theorem Mid.left {A B T : List Int} {i mid j hi k : Nat} (h : Mid A B T i mid j hi k) (hi1 : i < mid) (hj1 : j < hi) (hm : mid ≤ A.length) (hh : hi ≤ A.length) (hk : k < B.length) (c : ¬ A[j]'(by omega) < A[i]'(by omega)) :
    Mid A (B.set k (A[i]'(by omega))) T (i + 1) mid j hi (k + 1) := by
  unfold Mid at *
  rw [take_set_succ _ hk, List.append_assoc, ← h, seg_cons hi1 hm, seg_cons hj1 hh, mg_take_left _ _ c, ← seg_cons hj1 hh]
  rfl
theorem Mid.restL {A B T : List Int} {i mid j hi k : Nat} (h : Mid A B T i mid j hi k) (hi1 : i < mid) (hj1 : hi ≤ j) (hm : mid ≤ A.length) (hk : k < B.length) : Mid A (B.set k (A[i]'(by omega))) T (i + 1) mid j hi (k + 1) := by
  unfold Mid at *
  rw [take_set_succ _ hk, List.append_assoc, ← h, seg_cons hi1 hm, seg_nil A hj1, mg_nil_right, mg_nil_right]
  rfl
theorem Mid.restR {A B T : List Int} {i mid j hi k : Nat} (h : Mid A B T i mid j hi k) (hi1 : mid ≤ i) (hj1 : j < hi) (hh : hi ≤ A.length) (hk : k < B.length) : Mid A (B.set k (A[j]'(by omega))) T i mid (j + 1) hi (k + 1) := by
  unfold Mid at *
  rw [take_set_succ _ hk, List.append_assoc, ← h, seg_cons hj1 hh, seg_nil A hi1, mg_nil_left, mg_nil_left]
  rfl
theorem Mid.done {A B T : List Int} {i mid j hi k : Nat} (h : Mid A B T i mid j hi k) (hi1 : mid ≤ i) (hj1 : hi ≤ j) : B.take k = T := by
  unfold Mid at h
  rw [seg_nil A hi1, seg_nil A hj1, mg_nil_left, List.append_nil] at h
  exact h

/-- A pass under way: below lo the chunks are merged, from lo on they are not. -/
def Pass (w : Nat) (A B : List Int) (lo : Nat) : Prop :=
  B.length = A.length ∧ ((lo < A.length ∧ Pc (2 * w) (B.take lo) ∧ (B.take lo).Perm (A.take lo) ∧ Ch w (A.drop lo)) ∨ (A.length ≤ lo ∧ Ch (2 * w) B ∧ B.Perm A))
theorem Pass.start {w : Nat} {A B : List Int} (hB : B.length = A.length) (hA : 0 < A.length) (h : Ch w A) : Pass w A B 0 :=
  ⟨hB, .inl ⟨hA, by rw [List.take_zero]; exact .nil, by simp, by simpa using h⟩⟩
/-- What one chunk's merge writes. -/
def target (A B : List Int) (lo mid hi : Nat) : List Int := B.take lo ++ mg (seg A lo mid) (seg A mid hi)

theorem Pass.step {w : Nat} {A B B' : List Int} {lo mid hi : Nat} (h : Pass w A B lo) (hlo : lo < A.length) (hmid : mid = min (lo + w) A.length) (hhi : hi = min (lo + 2 * w) A.length) (hB' : B'.length = A.length)
    (hT : B'.take hi = target A B lo mid hi) : Pass w A B' (lo + 2 * w) := by
  refine ⟨hB', ?_⟩
  rcases h.2 with ⟨_, hp, hperm, hch⟩ | ⟨h1, _⟩
  · have e1 : seg A lo mid = (A.drop lo).take w := by
      unfold seg
      rcases Nat.le_total (lo + w) A.length with c | c
      · rw [hmid, Nat.min_eq_left c, show lo + w - lo = w by omega]
      · rw [hmid, Nat.min_eq_right c, List.take_of_length_le (by simp), List.take_of_length_le (by simp; omega)]
    have e2 : seg A mid hi = ((A.drop lo).drop w).take w := by
      unfold seg
      rw [List.drop_drop]
      rcases Nat.le_total (lo + w) A.length with c | c
      · rw [hmid, Nat.min_eq_left c]
        rcases Nat.le_total (lo + 2 * w) A.length with c2 | c2
        · rw [hhi, Nat.min_eq_left c2, show lo + 2 * w - (lo + w) = w by omega]
        · rw [hhi, Nat.min_eq_right c2, List.take_of_length_le (by simp), List.take_of_length_le (by simp; omega)]
      · rw [hmid, Nat.min_eq_right c, List.drop_of_length_le (Nat.le_refl _), List.drop_of_length_le c]; simp
    have s1 := hch.split
    have s2 := s1.2.split
    have hup : Up (mg (seg A lo mid) (seg A mid hi)) := by rw [e1, e2]; exact mg_up s1.1 s2.1
    have hpm : (mg (seg A lo mid) (seg A mid hi)).Perm ((A.drop lo).take (2 * w)) := by
      refine (mg_perm _ _).trans ?_
      rw [e1, e2, show 2 * w = w + w by omega, List.take_add]
    unfold target at hT
    by_cases c : lo + 2 * w < A.length
    · left
      rw [show hi = lo + 2 * w by omega] at hT
      refine ⟨c, ?_, ?_, ?_⟩
      · rw [hT]
        exact .snoc _ _ hp (by rw [show hi = lo + 2 * w by omega] at hpm; rw [hpm.length_eq]; simp; omega) (by rw [show hi = lo + 2 * w by omega] at hup; exact hup)
      · rw [hT, List.take_add]
        rw [show hi = lo + 2 * w by omega] at hpm
        exact hperm.append hpm
      · rw [← List.drop_drop, show 2 * w = w + w by omega, ← List.drop_drop]
        exact s2.2
    · right
      have hhiA : hi = A.length := by omega
      rw [hhiA] at hT hup hpm
      rw [List.take_of_length_le (by omega)] at hT
      refine ⟨by omega, ?_, ?_⟩
      · rw [hT]
        exact hp.join (.last _ (by rw [hpm.length_eq]; simp; omega) hup)
      · rw [hT]
        refine (hperm.append hpm).trans ?_
        rw [List.take_of_length_le (l := A.drop lo) (by simp; omega), List.take_append_drop]
  · omega
theorem Pass.finish {w : Nat} {A B : List Int} {lo : Nat} (h : Pass w A B lo) (hlo : ¬ lo < A.length) : Ch (2 * w) B ∧ B.Perm A := by
  rcases h.2 with ⟨h1, _⟩ | ⟨_, h2, h3⟩
  · omega
  · exact ⟨h2, h3⟩

/-- Two ascending rows (equals let in) that are one another's permutations are one. -/
theorem up_perm_eq {a b : List Int} (ha : Up a) (hb : Up b) (h : a.Perm b) : a = b := by
  refine List.Perm.eq_of_pairwise (le := fun x y => leI x y = true) (fun x y _ _ h1 h2 => ?_) ha hb h
  unfold leI at h1 h2
  rw [decide_eq_true_eq] at h1 h2
  omega

/-- The distinct values of a row, in order, as the law picks them: each that differs from the one ahead of it. -/
def dist (S : List Int) : Nat → List Int
  | 0 => []
  | i + 1 => if decide (i = 0 ∨ S.getD i 0 ≠ S.getD (i - 1) 0) then dist S i ++ [S.getD i 0] else dist S i
theorem dist_yes {S : List Int} {i : Nat} (h : i = 0 ∨ S.getD i 0 ≠ S.getD (i - 1) 0) : dist S (i + 1) = dist S i ++ [S.getD i 0] := by rw [dist, if_pos (decide_eq_true h)]
theorem dist_no {S : List Int} {i : Nat} (h : ¬ (i = 0 ∨ S.getD i 0 ≠ S.getD (i - 1) 0)) : dist S (i + 1) = dist S i := by rw [dist, if_neg (by rw [decide_eq_false h]; simp)]
theorem dist_len (S : List Int) : ∀ i, (dist S i).length ≤ i
  | 0 => by simp [dist]
  | i + 1 => by
    have := dist_len S i
    rw [dist]
    split
    · simp; omega
    · omega
theorem up_mono {S : List Int} (h : Up S) {p q : Nat} (h1 : p ≤ q) (h2 : q < S.length) : S.getD p 0 ≤ S.getD q 0 := by
  rcases Nat.lt_or_eq_of_le h1 with h3 | rfl
  · have := List.pairwise_iff_getElem.1 h p q (by omega) h2 h3
    unfold leI at this
    rw [decide_eq_true_eq] at this
    simpa [show p < S.length by omega, h2] using this
  · exact Int.le_refl _
theorem dist_shape {S : List Int} : ∀ i, ∀ x ∈ dist S i, ∃ p, p < i ∧ x = S.getD p 0
  | 0, x, h => by simp [dist] at h
  | i + 1, x, h => by
    rw [dist] at h
    split at h
    · rcases List.mem_append.1 h with h | h
      · obtain ⟨p, h1, h2⟩ := dist_shape i x h
        exact ⟨p, by omega, h2⟩
      · exact ⟨i, by omega, by simpa using h⟩
    · obtain ⟨p, h1, h2⟩ := dist_shape i x h
      exact ⟨p, by omega, h2⟩
theorem dist_up {S : List Int} (hS : Up S) : ∀ i, i ≤ S.length → (dist S i).Pairwise (· < ·)
  | 0, _ => by simp [dist]
  | i + 1, hi => by
    rw [dist]
    split
    · rename_i hh
      refine List.pairwise_append.2 ⟨dist_up hS i (by omega), by simp, fun x hx y hy => ?_⟩
      obtain ⟨p, h1, rfl⟩ := dist_shape i x hx
      obtain rfl : y = S.getD i 0 := by simpa using hy
      have a := up_mono hS (p := p) (q := i - 1) (by omega) (by omega)
      have b := up_mono hS (p := i - 1) (q := i) (by omega) (by omega)
      have := of_decide_eq_true hh
      omega
    · exact dist_up hS i (by omega)
theorem dist_grow {S : List Int} {x : Int} (i : Nat) : ∀ m, x ∈ dist S i → x ∈ dist S (i + m)
  | 0, h => h
  | m + 1, h => by
    have := dist_grow i m h
    rw [← Nat.add_assoc, dist]
    split
    · exact List.mem_append_left _ this
    · exact this
theorem dist_cover {S : List Int} : ∀ q, S.getD q 0 ∈ dist S (q + 1)
  | 0 => by rw [dist_yes (.inl rfl)]; simp
  | q + 1 => by
    by_cases h : q + 1 = 0 ∨ S.getD (q + 1) 0 ≠ S.getD (q + 1 - 1) 0
    · rw [dist_yes h]; simp
    · rw [dist_no h]
      have h2 : S.getD (q + 1) 0 = S.getD q 0 := by
        simp only [not_or, Nat.add_sub_cancel, Decidable.not_not] at h
        exact h.2
      rw [h2]
      exact dist_cover q
theorem dist_mem {S : List Int} (x : Int) : x ∈ dist S S.length ↔ x ∈ S := by
  constructor
  · intro h
    obtain ⟨p, h1, rfl⟩ := dist_shape _ x h
    have : S.getD p 0 = S[p] := by simp [h1]
    rw [this]
    exact List.getElem_mem h1
  · intro h
    obtain ⟨q, hq, rfl⟩ := List.getElem_of_mem h
    have h2 := dist_grow (q + 1) (S.length - (q + 1)) (dist_cover (S := S) q)
    rw [show q + 1 + (S.length - (q + 1)) = S.length by omega] at h2
    have : S.getD q 0 = S[q] := by simp [hq]
    rwa [this] at h2
end Go.Proofs.YtheochfpidahmaaGreatDoor
