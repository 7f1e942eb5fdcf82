/-
  FnGroupByExact: each run holds just the places of its key, in order: the plain law; and a row of rows of ints that grow at any place (folder n001_68).
-/
import Derived.Test.YtheochfpidahmaaGreatDoorHeadsLaw
namespace Go.Proofs.YtheochfpidahmaaGreatDoor
open Go Go.RowKit Go.Sort

/-! ### The runs -/
def ordL (d : Array Nat) (i : Nat) : List Nat := (List.range i).map fun t => d[t]!
theorem ordL_succ (d : Array Nat) (i : Nat) : ordL d (i + 1) = ordL d i ++ [d[i]!] := by simp [ordL, List.range_succ]
section
variable {K : Nat → Int} {d : Array Nat} {n : Nat}
theorem heads_last : ∀ i, i ≠ 0 → ∃ H0 h, headsK K d i = H0 ++ [h] ∧ K h = K d[i - 1]!
  | 0, h => absurd rfl h
  | i + 1, _ => by
    cases h : headAt K d i with
    | true => exact ⟨headsK K d i, d[i]!, headsK_yes h, by simp⟩
    | false =>
      have hi : i ≠ 0 := fun e => by subst e; simp [headAt] at h
      obtain ⟨H0, x, e1, e2⟩ := heads_last i hi
      refine ⟨H0, x, by rw [headsK_no h]; exact e1, ?_⟩
      have := of_decide_eq_false h
      simp only [not_or, Decidable.not_not] at this
      rw [e2, this.2]
      simp
theorem filter_snoc (p : Nat → Bool) (l : List Nat) (x : Nat) : (l ++ [x]).filter p = l.filter p ++ if p x then [x] else [] := by
  rw [List.filter_append]
  congr 1
  cases h : p x <;> simp [h]
theorem groups_runs (hS : SortedIn (tlK K) 0 n d) : ∀ i, i ≤ n → groupsF id K d i = (headsK K d i).map fun h => (ordL d i).filter fun x => decide (K x = K h)
  | 0, _ => rfl
  | i + 1, hi => by
    have ih := groups_runs hS i (by omega)
    have hup := heads_up hS (i + 1) hi
    cases h : headAt K d i with
    | true =>
      rw [headsK_yes h] at hup
      rw [groupsF_yes h, headsK_yes h, ih, List.map_append, ordL_succ]
      congr 1
      · refine List.map_congr_left fun x hx => ?_
        have hlt := (List.pairwise_append.1 hup).2.2 x hx d[i]! (by simp)
        rw [filter_snoc, if_neg (by rw [decide_eq_true_eq]; omega), List.append_nil]
      · have h0 : (ordL d i).filter (fun x => decide (K x = K d[i]!)) = [] := by
          rw [List.filter_eq_nil_iff]
          intro x hx
          obtain ⟨t, ht, rfl⟩ := List.mem_map.1 hx
          have ht' := List.mem_range.1 ht
          rw [decide_eq_true_eq]
          have a := key_mono hS (p := t) (q := i - 1) (by omega) (by omega)
          have b := key_mono hS (p := i - 1) (q := i) (by omega) (by omega)
          have := of_decide_eq_true h
          omega
        simp [h0]
    | false =>
      have hi0 : i ≠ 0 := fun e => by subst e; simp [headAt] at h
      obtain ⟨H0, x, e1, e2⟩ := heads_last (K := K) (d := d) i hi0
      have hk : K d[i - 1]! = K d[i]! := by
        have := of_decide_eq_false h
        simp only [not_or, Decidable.not_not] at this
        exact this.2
      rw [headsK_no h, e1] at hup
      have ih2 := ih
      rw [e1, List.map_append] at ih2
      rw [groupsF_no h ih2, headsK_no h, e1, List.map_append, ordL_succ]
      congr 1
      · refine List.map_congr_left fun y hy => ?_
        have hlt := (List.pairwise_append.1 hup).2.2 y hy x (by simp)
        rw [filter_snoc, if_neg (by rw [decide_eq_true_eq]; omega), List.append_nil]
      · simp only [List.map_cons, List.map_nil]
        rw [filter_snoc, if_pos (by rw [decide_eq_true_eq]; omega)]
        rfl
theorem groupsF_map {β : Type} (f : Nat → β) : ∀ i, groupsF f K d i = (groupsF id K d i).map (·.map f)
  | 0 => rfl
  | i + 1 => by
    have ih := groupsF_map f i
    cases h : headAt K d i with
    | true => rw [groupsF_yes h, groupsF_yes h, ih, List.map_append]; rfl
    | false =>
      have hi : i ≠ 0 := fun e => by subst e; simp [headAt] at h
      obtain ⟨C, l, e⟩ : ∃ C l, groupsF id K d i = C ++ [l] := ⟨_, _, (List.dropLast_concat_getLast (groupsF_ne id K d hi)).symm⟩
      rw [groupsF_no h e]
      rw [e, List.map_append] at ih
      rw [groupsF_no h ih, List.map_append]
      simp
theorem ord_filter (hS : SortedIn (tlK K) 0 n d) (hP : PermIn 0 n (Array.range n) d) (c : Int) : (ordL d n).filter (fun x => decide (K x = c)) = (List.range n).filter fun x => decide (K x = c) := by
  have hperm : (ordL d n).Perm (List.range n) := by
    have hs : n ≤ d.size := by rw [hP.1]; simp
    have h := hP.2.2
    rw [extract_toList d 0 n hs, extract_toList (Array.range n) 0 n (by simp), Nat.sub_zero, ← List.range_eq_range'] at h
    refine h.trans (List.Perm.of_eq ?_)
    apply List.ext_getElem
    · simp
    · intro i h3 h4
      have hi : i < n := by simpa using h4
      simp only [List.getElem_map, List.getElem_range, range_at n i (by simpa using hi)]
  refine List.Perm.eq_of_pairwise (le := fun x y => x ≤ y) (fun x y _ _ h1 h2 => Nat.le_antisymm h1 h2) ?_ ?_ (hperm.filter _)
  · rw [List.pairwise_filter]
    unfold ordL
    rw [List.pairwise_map]
    refine List.pairwise_iff_getElem.2 fun i j hi hj hij h1 h2 => ?_
    simp only [List.getElem_range, decide_eq_true_eq] at h1 h2 ⊢
    exact place_mono hS (Nat.le_of_lt hij) (by simpa using hj) (h1.trans h2.symm)
  · refine List.Pairwise.filter _ ?_
    exact (List.pairwise_lt_range).imp fun h => Nat.le_of_lt h
end

/-- What the law gathers for the j-th key among the first k places. -/
def expL (vs ks D : List Int) (k j : Nat) : List Int := ((List.range k).filter fun i => decide (ks.getD i 0 = D.getD j 0)).map fun i => vs.getD i 0
theorem expL_hit {vs ks D : List Int} {k j : Nat} (h : ks.getD k 0 = D.getD j 0) : expL vs ks D (k + 1) j = expL vs ks D k j ++ [vs.getD k 0] := by
  unfold expL
  rw [List.range_succ, filter_snoc, if_pos (decide_eq_true h), List.map_append]
  rfl
theorem expL_miss {vs ks D : List Int} {k j : Nat} (h : ks.getD k 0 ≠ D.getD j 0) : expL vs ks D (k + 1) j = expL vs ks D k j := by
  unfold expL
  rw [List.range_succ, filter_snoc, if_neg (by rw [decide_eq_true_eq]; exact h), List.append_nil]
theorem expL_len (vs ks D : List Int) (k j : Nat) : (expL vs ks D k j).length ≤ k := by
  unfold expL
  rw [List.length_map]
  exact Nat.le_trans (List.length_filter_le _ _) (by simp)

theorem groups_exp {vs ks D : List Int} {d : Array Nat} {n : Nat} (hk : ks.length = n) (hS : SortedIn (tlK (keyF ks)) 0 n d) (hP : PermIn 0 n (Array.range n) d) (hD : D.Pairwise (· < ·)) (hm : ∀ x, x ∈ D ↔ x ∈ ks) :
    groupsF (fun x => vs.getD x 0) (keyF ks) d n = (List.range D.length).map fun j => expL vs ks D n j := by
  have hkeys : (headsK (keyF ks) d n).map (fun x => ks.getD x 0) = D := by
    have := uniq_up hk hS hP
    have h2 := uniq_mem hk hS hP
    unfold uniqL at this h2
    exact up_unique _ _ this hD fun x => (h2 x).trans (hm x).symm
  have hlen : (headsK (keyF ks) d n).length = D.length := by rw [← hkeys, List.length_map]
  rw [groupsF_map, groups_runs hS n (Nat.le_refl _), List.map_map]
  apply List.ext_getElem
  · simp [hlen]
  · intro j h1 h2
    have hj : j < D.length := by simpa using h2
    have hjh : j < (headsK (keyF ks) d n).length := by omega
    simp only [List.getElem_map, List.getElem_range, Function.comp_apply]
    rw [ord_filter hS hP]
    unfold expL
    congr 1
    refine List.filter_congr fun x hx => ?_
    have hxn : x < n := List.mem_range.1 hx
    have e1 : keyF ks x = ks.getD x 0 := keyF_getD (by omega)
    have e2 : keyF ks ((headsK (keyF ks) d n)[j]) = D.getD j 0 := by
      rw [keyF_getD (by rw [hk]; exact (heads_first hS hP _ (List.getElem_mem hjh)).1)]
      have := List.getElem_of_eq hkeys.symm hj
      rw [List.getElem_map] at this
      rw [← this]
      simp [hj]
    rw [e1, e2]

/-! ### A row of rows -/
theorem own_grown_v {w w' : World} {base e n : Nat} {row : Option Nat} {u : Value} {xs : List Value} (h : w.ownsRow base e 1 u n xs) (hg : w.grownBy w' row) (hne : ∀ g, u.ownBlock = some g → some g ≠ row) : w'.ownsRow base e 1 u n xs := by
  rcases h.2 with h2 | ⟨g, cap, cur, rfl, hb, hh, r⟩
  · exact ⟨h.1, .inl h2⟩
  · exact own_grown h hg (hne g rfl)
theorem own_set_v {w : World} {base e n b o : Nat} {v u : Value} {xs : List Value} (h : w.ownsRow base e 1 u n xs) (hne : u.ownBlock ≠ some b) : (w.setCell ⟨b, o, none⟩ v).ownsRow base e 1 u n xs := by
  rcases h.2 with h2 | ⟨g, cap, cur, rfl, hb, hh, r⟩
  · exact ⟨h.1, .inl h2⟩
  · exact own_set h fun e => hne (by rw [← e]; rfl)

theorem cell_set_same {w : World} {g k : Nat} {u v : Value} (h : w.cell? ⟨g, k, none⟩ = some u) : (w.setCell ⟨g, k, none⟩ v).cell? ⟨g, k, none⟩ = some v := by
  obtain ⟨c, e, fr, hb, hc⟩ := cells_of_cell? h
  have hlt : k < c.size := (Array.getElem?_eq_some_iff.1 hc).1
  rw [setCell_eq, cell?_mapBlock w g _ _ hb, Array.getElem?_setIfInBounds, if_pos rfl, if_pos hlt]
theorem cell_set_at {w : World} {g k j : Nat} {u v : Value} (h : w.cell? ⟨g, k, none⟩ = some u) (hne : k ≠ j) : (w.setCell ⟨g, k, none⟩ v).cell? ⟨g, j, none⟩ = w.cell? ⟨g, j, none⟩ := by
  obtain ⟨c, e, fr, hb, hc⟩ := cells_of_cell? h
  rw [setCell_eq, cell?_mapBlock w g _ _ hb, Array.getElem?_setIfInBounds, if_neg hne, cell_of_row w g j c e fr hb]
theorem frozen_set {w : World} {g k : Nat} {v : Value} (a : Addr) : (w.setCell ⟨g, k, none⟩ v).frozen? a = w.frozen? a := by
  rw [setCell_eq, frozen?_mapBlock]

/-- The rows under way: place j of block ge holds the value v j, which owns e j. -/
structure XS (base m ge : Nat) (w : World) (v : Nat → Value) (e : Nat → List Int) : Prop where
  lt : ge < w.heap.size
  cells : ∀ j, j < m → w.cell? ⟨ge, j, none⟩ = some (v j) ∧ w.frozen? ⟨ge, j, none⟩ = false
  own : ∀ j, j < m → w.ownsRow base 3 1 (v j) (e j).length (intV (e j))
  away : ∀ j, j < m → (v j).ownBlock ≠ some ge
  apart : ∀ i, i < m → ∀ j, j < m → i ≠ j → ∀ g, (v i).ownBlock = some g → (v j).ownBlock ≠ some g

/-- ONE append OF AN int INSIDE A REGION THAT DRAWS. -/
theorem step_appendI (base : Nat) (W0 : World) (u : Value) (n : Nat) (xs : List Value) (x0 : Int) (hown : W0.ownsRow base 3 1 u n xs) (hbs : base ≤ W0.heap.size) (hlen : n ≤ 1048577)
    {ops : Array Oper} {o : Oper} {a : Act} {K : Act → World → Prop} {Q : Exit → Act → World → Prop} {E : Prop} (hg : o.guard = none) (s x : Operand) (ho : o.op = .call { callee := .builtin .append, args := #[s, x], argTypes := #[22, 22] })
    (hs : a.eval s = u) (hx : a.eval x = .slice (some ⟨W0.heap.size, 0, none⟩) 1 1)
    (hK : ∀ g cap w3, w3.ownsRow base 3 1 (.slice (some ⟨g, 0, none⟩) (n + 1) cap) (n + 1) (xs ++ [.int .i64 x0]) → (W0.alloc (.cells #[.int .i64 x0] 3)).grownBy w3 u.ownBlock → (u.ownBlock = some g ∨ g = W0.heap.size + 1) → K (a.put o.dst (.slice (some ⟨g, 0, none⟩) (n + 1) cap)) w3) :
    if Region.wanted o (yielded ops a.tmps) = true then Oper.wp Tryz.prog o a (W0.alloc (.cells #[.int .i64 x0] 3)).drew K Q else E := by
  obtain ⟨i0, hi, hz0, hz1, hz2⟩ := info_parts Tryz.infoIntS
  have hownA : (W0.alloc (.cells #[.int .i64 x0] 3)).drew.ownsRow base 3 1 u n xs := (hown.alloc _).drew
  have hbsA : base ≤ (W0.alloc (.cells #[.int .i64 x0] 3)).drew.heap.size := by
    show base ≤ (W0.alloc (.cells #[.int .i64 x0] 3)).heap.size
    simp; omega
  refine step_append_lies _ hg s x 22 ho base 3 i0 (.int .i64 0) 1 8 Tryz.underlying22 hi hz0 hz1 hz2 rfl (by decide) u n xs hs hownA ⟨W0.heap.size, 0, none⟩ 1 1 [.int .i64 x0] hx rfl
    (cells_new W0 [.int .i64 x0] _) (fun v hv => by simp at hv; subst hv; rfl) (by omega) (by unfold maxLen; omega) (by omega) hbsA (W0.heap.size + 1) (by show (W0.alloc (.cells #[.int .i64 x0] 3)).heap.size = _; simp) ?_
  intro g cap w3 hown3 hgrow3 hat _
  exact hK g cap w3 hown3 ⟨hgrow3.os, hgrow3.tape, hgrow3.output, hgrow3.size, hgrow3.block⟩ hat

theorem XS.mid {base m ge j : Nat} {wr w3 : World} {v : Nat → Value} {e : Nat → List Int} {x0 : Int} (h : XS base m ge wr v e) (hj : j < m) (hgrow : (wr.alloc (.cells #[.int .i64 x0] 3)).grownBy w3 (v j).ownBlock) :
    w3.cell? ⟨ge, j, none⟩ = some (v j) ∧ w3.frozen? ⟨ge, j, none⟩ = false := by
  have hlt : ge < (wr.alloc (.cells #[.int .i64 x0] 3)).heap.size := by have := h.lt; simp; omega
  have hb := hgrow.block ge hlt (fun q => h.away j hj q.symm)
  rw [World.cell?_of_block (a := ⟨ge, j, none⟩) hb, World.frozen?_of_block (a := ⟨ge, j, none⟩) hb, alloc_eq_grow, cell?_grow _ _ _ h.lt, frozen?_grow _ _ _ h.lt]
  exact h.cells j hj
theorem XS.step {base m ge j g cap : Nat} {wr w3 : World} {v : Nat → Value} {e : Nat → List Int} {x0 : Int} (h : XS base m ge wr v e) (hj : j < m) (hgrow : (wr.alloc (.cells #[.int .i64 x0] 3)).grownBy w3 (v j).ownBlock)
    (hown3 : w3.ownsRow base 3 1 (.slice (some ⟨g, 0, none⟩) ((e j).length + 1) cap) ((e j).length + 1) (intV (e j) ++ [.int .i64 x0])) (hat : (v j).ownBlock = some g ∨ g = wr.heap.size + 1) :
    XS base m ge (w3.setCell ⟨ge, j, none⟩ (.slice (some ⟨g, 0, none⟩) ((e j).length + 1) cap)) (fun i => if i = j then .slice (some ⟨g, 0, none⟩) ((e j).length + 1) cap else v i) (fun i => if i = j then e j ++ [x0] else e i) := by
  have hlt : ge < (wr.alloc (.cells #[.int .i64 x0] 3)).heap.size := by have := h.lt; simp; omega
  have hb := hgrow.block ge hlt (fun q => h.away j hj q.symm)
  have hgge : g ≠ ge := by
    rcases hat with q | q
    · exact fun e' => h.away j hj (by rw [q, e'])
    · have := h.lt; omega
  refine ⟨?_, ?_, ?_, ?_, ?_⟩
  · have : ge < w3.heap.size := Nat.lt_of_lt_of_le hlt hgrow.size
    simpa [World.setCell] using this
  · intro i hi
    have hc : w3.cell? ⟨ge, i, none⟩ = some (v i) ∧ w3.frozen? ⟨ge, i, none⟩ = false := by
      rw [World.cell?_of_block (a := ⟨ge, i, none⟩) hb, World.frozen?_of_block (a := ⟨ge, i, none⟩) hb, alloc_eq_grow, cell?_grow _ _ _ h.lt, frozen?_grow _ _ _ h.lt]
      exact h.cells i hi
    have hj0 := XS.mid h hj hgrow
    by_cases q : i = j
    · subst q
      rw [if_pos rfl, frozen_set]
      exact ⟨cell_set_same hj0.1, hc.2⟩
    · rw [if_neg q, frozen_set, cell_set_at hj0.1 (Ne.symm q)]
      exact hc
  · intro i hi
    by_cases q : i = j
    · subst q
      simp only [if_pos]
      rw [show intV (e i ++ [x0]) = intV (e i) ++ [.int .i64 x0] by simp only [intV, List.map_append, List.map_cons, List.map_nil], List.length_append]
      exact own_set_v hown3 (fun h' => hgge (Option.some.inj h'))
    · simp only [if_neg q]
      refine own_set_v (own_grown_v ((h.own i hi).alloc _) hgrow fun g' hg' => ?_) (h.away i hi)
      exact fun e' => h.apart i hi j hj q g' hg' e'.symm
  · intro i hi
    by_cases q : i = j
    · subst q
      simp only [if_pos]
      exact fun h' => hgge (Option.some.inj h')
    · simp only [if_neg q]
      exact h.away i hi
  · intro i hi i' hi' hne g' hg'
    by_cases q : i = j
    · subst q
      simp only [if_pos] at hg'
      rw [if_neg (Ne.symm hne)]
      obtain rfl : g = g' := Option.some.inj hg'
      rcases hat with a1 | a1
      · exact h.apart i hi i' hi' hne g a1
      · intro e'
        have := (h.own i' hi').lt g e'
        omega
    · rw [if_neg q] at hg'
      by_cases q' : i' = j
      · subst q'
        simp only [if_pos]
        intro e'
        obtain rfl : g = g' := Option.some.inj e'
        rcases hat with a1 | a1
        · exact h.apart i hi i' hi' hne g hg' a1
        · have := (h.own i hi).lt g hg'
          omega
      · rw [if_neg q']
        exact h.apart i hi i' hi' hne g' hg'
end Go.Proofs.YtheochfpidahmaaGreatDoor
