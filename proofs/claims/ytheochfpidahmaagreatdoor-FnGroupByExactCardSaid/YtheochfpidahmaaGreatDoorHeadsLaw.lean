/-
  FnUniqueByAgreesWithGroupByHeads: the plain law and the law's walk (folder n001_68).
-/
import Derived.Test.YtheochfpidahmaaGreatDoorFromOwn
import Derived.Test.YtheochfpidahmaaGreatDoorFirstLaw
namespace Go.Proofs.YtheochfpidahmaaGreatDoor
open Go Go.RowKit Go.Sort

/-! ### The groups and the heads -/
section
variable {β : Type} {f : Nat → β} {K : Nat → Int} {d : Array Nat}
theorem groups_heads : ∀ i, (groupsF f K d i).map (·.head?) = (headsK K d i).map fun x => some (f x)
  | 0 => rfl
  | i + 1 => by
    have ih := groups_heads i
    cases h : headAt K d i with
    | true => rw [groupsF_yes h, headsK_yes h, List.map_append, List.map_append, ih]; rfl
    | false =>
      have hi : i ≠ 0 := fun e => by subst e; simp [headAt] at h
      obtain ⟨C, l, e⟩ : ∃ C l, groupsF f K d i = C ++ [l] := ⟨_, _, (List.dropLast_concat_getLast (groupsF_ne f K d hi)).symm⟩
      have hne : l ≠ [] := fun h0 => by
        subst h0
        have h2 : (none : Option β) ∈ (groupsF f K d i).map (·.head?) := List.mem_map.2 ⟨[], by rw [e]; simp, rfl⟩
        rw [ih] at h2
        obtain ⟨_, _, h3⟩ := List.mem_map.1 h2
        cases h3
      rw [groupsF_no h e, headsK_no h, ← ih, e, List.map_append, List.map_append]
      congr 1
      cases l with
      | nil => exact absurd rfl hne
      | cons y l => rfl
theorem groups_flat : ∀ i, (groupsF f K d i).flatten = (List.range i).map fun t => f d[t]!
  | 0 => rfl
  | i + 1 => by
    have ih := groups_flat i
    cases h : headAt K d i with
    | true => rw [groupsF_yes h, List.flatten_append, ih, List.range_succ, List.map_append]; rfl
    | false =>
      have hi : i ≠ 0 := fun e => by subst e; simp [headAt] at h
      obtain ⟨C, l, e⟩ : ∃ C l, groupsF f K d i = C ++ [l] := ⟨_, _, (List.dropLast_concat_getLast (groupsF_ne f K d hi)).symm⟩
      rw [groupsF_no h e, List.range_succ, List.map_append, ← ih, e]
      simp
end

theorem order_unique {K : Nat → Int} {n : Nat} {d d2 : Array Nat} (h1 : SortedIn (tlK K) 0 n d) (p1 : PermIn 0 n (Array.range n) d) (h2 : SortedIn (tlK K) 0 n d2) (p2 : PermIn 0 n (Array.range n) d2) : d = d2 := by
  have hn : (Array.range n).size = n := Array.size_range
  have tot : ∀ x y, tlK K x y = false → tlK K y x = false → x = y := fun x y a b => by
    simp only [tlK, decide_eq_false_iff_not] at a b
    omega
  have e1 := sorted_unique_holds (swo_tl K) tot (Array.range n) d (by rw [hn]; exact p1) (by rw [hn]; exact h1)
  have e2 := sorted_unique_holds (swo_tl K) tot (Array.range n) d2 (by rw [hn]; exact p2) (by rw [hn]; exact h2)
  exact Array.toList_inj.1 (e1.trans e2.symm)

theorem order_perm {n : Nat} {d : Array Nat} (p : PermIn 0 n (Array.range n) d) (vs : List Int) (hv : vs.length = n) : ((List.range n).map fun t => vs.getD d[t]! 0).Perm vs := by
  have hs : n ≤ d.size := by rw [p.1]; simp
  have h := p.2.2
  rw [extract_toList d 0 n hs, extract_toList (Array.range n) 0 n (by simp), Nat.sub_zero] at h
  have h2 := h.map fun x => vs.getD x 0
  rw [List.map_map, List.map_map] at h2
  have e1 : List.range' 0 n = List.range n := List.range_eq_range'.symm
  rw [e1] at h2
  refine List.Perm.trans (List.Perm.of_eq rfl) (h2.trans (List.Perm.of_eq ?_))
  apply List.ext_getElem
  · simp [hv]
  · intro i h3 h4
    have hi : i < n := by omega
    have er : (Array.range n)[i]! = i := range_at n i (by simpa using hi)
    simp only [List.getElem_map, List.getElem_range, Function.comp_apply, er]
    simp [h4]

theorem own_slice {w : World} {base e n : Nat} {v : Value} {xs : List Value} (h : w.ownsRow base e 1 v n xs) : ∃ a cap, v = .slice a n cap ∧ Row w a xs := by
  rcases h.2 with ⟨rfl, h0⟩ | ⟨g, cap, cur, rfl, _⟩
  · subst h0
    exact ⟨none, 0, rfl, .inl (List.eq_nil_of_length_eq_zero (by have := h.1; omega))⟩
  · exact ⟨some ⟨g, 0, none⟩, cap, rfl, (reads_own h).row⟩

theorem bytesH_any (a1 a2 : Option Addr) (c1 c2 n1 n2 : Nat) (w : World) (hl1 : n1 ≤ 140737488351232) (hl2 : n2 ≤ 140737488351232) :
    Calls Tryz.prog 27 #[.slice a1 n1 c1, .slice a2 n2 c2] w fun e w' => SomeBool e ∧ w = w' := by
  go_enter Tryz.func27, Tryz.ntmps27
  go_wp2
  all_goals (go_ret; exact ⟨⟨_, rfl⟩, rfl⟩)

set_option maxRecDepth 100000 in
set_option maxHeartbeats 1600000 in
theorem zzGroupBy_any (a1 a2 : Option Addr) (c1 c2 n : Nat) (vs ks : List Int) (w : World) (hv : vs.length = n) (hk : ks.length = n) (hl : n ≤ 1048576) (r1 : Row w a1 (anyI vs)) (r2 : Row w a2 (anyI ks)) :
    Calls Tryz.prog 11 #[.iface 25 (.slice a1 n c1), .iface 25 (.slice a2 n c2)] w (Grouped vs ks n w) := by
  have HC : Hid (Calls Tryz.prog 29 _ w fun e w' => ∃ (go capo m : Nat), e = .returned (.iface 25 (.slice (some ⟨go, 0, none⟩) m capo)) ∧ Hid (Grouped vs ks n w e w')) :=
    (groupBy_any a1 a2 c1 c2 n vs ks w hv hk hl r1 r2).mono fun e w' h => by
      obtain ⟨go, capo, m, C, d, q1, q2, q3, q4, q5⟩ := h
      exact ⟨go, capo, m, q4, go, capo, m, C, d, q1, q2, q3, q4, q5⟩
  clear r1 r2 hv hk
  go_enter Tryz.func11, Tryz.ntmps11
  go_wp2_with (go_at_call 29; refine HC.out.mono ?_; rintro e w' ⟨go, capo, m, rfl, HG⟩)
  go_ret
  exact HG.out
end Go.Proofs.YtheochfpidahmaaGreatDoor
