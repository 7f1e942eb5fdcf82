/-
  group_by at two rows of ints of one length: the runs of equal keys, each a row of its own, in a row of rows; by its contract (folder n001_68).
-/
import Derived.Test.YtheochfpidahmaaGreatDoorUniq
import Derived.Laws.Runes
namespace Go.Proofs.YtheochfpidahmaaGreatDoor
open Go Go.RowKit Go.Sort Go.Proofs

/-- The runs of equal keys among the first i places, each place turned by f. -/
def groupsF {β : Type} (f : Nat → β) (K : Nat → Int) (d : Array Nat) : Nat → List (List β)
  | 0 => []
  | i + 1 => if headAt K d i then groupsF f K d i ++ [[f d[i]!]] else (groupsF f K d i).dropLast ++ [(groupsF f K d i).getLast?.getD [] ++ [f d[i]!]]
theorem groupsF_yes {β : Type} {f : Nat → β} {K : Nat → Int} {d : Array Nat} {i : Nat} (h : headAt K d i = true) : groupsF f K d (i + 1) = groupsF f K d i ++ [[f d[i]!]] := by rw [groupsF, if_pos h]
theorem groupsF_no {β : Type} {f : Nat → β} {K : Nat → Int} {d : Array Nat} {i : Nat} {C : List (List β)} {l : List β} (h : headAt K d i = false) (e : groupsF f K d i = C ++ [l]) : groupsF f K d (i + 1) = C ++ [l ++ [f d[i]!]] := by
  rw [groupsF, if_neg (by rw [h]; simp), e]; simp
theorem groupsF_len {β : Type} (f : Nat → β) (K : Nat → Int) (d : Array Nat) : ∀ i, (groupsF f K d i).length ≤ i ∧ ∀ l ∈ groupsF f K d i, l.length ≤ i
  | 0 => by simp [groupsF]
  | i + 1 => by
    obtain ⟨h1, h2⟩ := groupsF_len f K d i
    rw [groupsF]
    split
    · refine ⟨by simp; omega, fun l hl => ?_⟩
      rcases List.mem_append.1 hl with hl | hl
      · have := h2 l hl; omega
      · obtain rfl : l = [f d[i]!] := by simpa using hl
        simp
    · refine ⟨by simp; omega, fun l hl => ?_⟩
      rcases List.mem_append.1 hl with hl | hl
      · have := h2 l ((List.dropLast_sublist _).subset hl); omega
      · obtain rfl : l = (groupsF f K d i).getLast?.getD [] ++ [f d[i]!] := by simpa using hl
        cases hg : (groupsF f K d i).getLast? with
        | none => simp
        | some q =>
          have := h2 q (List.mem_of_getLast? hg)
          simp; omega

theorem groupsF_ne {β : Type} (f : Nat → β) (K : Nat → Int) (d : Array Nat) {i : Nat} (h : i ≠ 0) : groupsF f K d i ≠ [] := by
  cases i with
  | zero => exact absurd rfl h
  | succ i =>
    rw [groupsF]
    split <;> simp

/-- A group in memory: its row's block, its capacity, its values. -/
structure Grp where
  g : Nat
  cap : Nat
  l : List Int
def Grp.val (c : Grp) : Value := .iface 25 (.slice (some ⟨c.g, 0, none⟩) c.l.length c.cap)

theorem own_grown {w w' : World} {base e g n cap : Nat} {row : Option Nat} {xs : List Value} (h : w.ownsRow base e 1 (.slice (some ⟨g, 0, none⟩) n cap) n xs) (hg : w.grownBy w' row) (hne : some g ≠ row) :
    w'.ownsRow base e 1 (.slice (some ⟨g, 0, none⟩) n cap) n xs := by
  have hlt := (h.lt g rfl).2
  refine ⟨h.1, ?_⟩
  rcases h.2 with h2 | ⟨g', cap', cur, hv, hb, hh, r⟩
  · exact .inl h2
  · obtain rfl : g = g' := by simp only [Value.slice.injEq, Option.some.injEq, Addr.mk.injEq, and_true, true_and] at hv; exact hv.1
    exact .inr ⟨g, cap', cur, hv, hb, by rw [hg.block g hlt hne]; exact hh, r⟩
theorem own_set {w : World} {base e g n cap b o : Nat} {u : Value} {xs : List Value} (h : w.ownsRow base e 1 (.slice (some ⟨g, 0, none⟩) n cap) n xs) (hne : g ≠ b) :
    (w.setCell ⟨b, o, none⟩ u).ownsRow base e 1 (.slice (some ⟨g, 0, none⟩) n cap) n xs := by
  refine ⟨h.1, ?_⟩
  rcases h.2 with h2 | ⟨g', cap', cur, hv, hb, hh, r⟩
  · exact .inl h2
  · obtain rfl : g = g' := by simp only [Value.slice.injEq, Option.some.injEq, Addr.mk.injEq, and_true, true_and] at hv; exact hv.1
    exact .inr ⟨g, cap', cur, hv, hb, by rw [Below.heap_setCell _ _ _ _ hne]; exact hh, r⟩
/-- A row that reads so, in block g. -/
def Reads (w : World) (g : Nat) (V : List Value) : Prop := g < w.heap.size ∧ ∀ j u, V[j]? = some u → w.cell? ⟨g, j, none⟩ = some u
theorem Reads.row {w : World} {g : Nat} {V : List Value} (h : Reads w g V) : Row w (some ⟨g, 0, none⟩) V := .inr ⟨g, 0, rfl, h.1, fun j u hu => by rw [Nat.zero_add]; exact h.2 j u hu⟩
theorem Reads.grown {w w' : World} {g : Nat} {V : List Value} {row : Option Nat} (h : Reads w g V) (hg : w.grownBy w' row) (hne : some g ≠ row) : Reads w' g V :=
  ⟨Nat.lt_of_lt_of_le h.1 hg.size, fun j u hu => (World.cell?_of_block (w := w) (a := ⟨g, j, none⟩) (hg.block g h.1 hne)).trans (h.2 j u hu)⟩
theorem Reads.set {w : World} {g b o : Nat} {V : List Value} {u : Value} (h : Reads w g V) (hne : g ≠ b) : Reads (w.setCell ⟨b, o, none⟩ u) g V :=
  ⟨by simpa [World.setCell] using h.1, fun j v hv => by rw [setCell_eq, cell?_mapBlock_other _ _ _ _ hne]; exact h.2 j v hv⟩
theorem Reads.alloc {w : World} {g : Nat} {V : List Value} (h : Reads w g V) (o : Obj) : Reads (w.alloc o) g V := by
  rw [alloc_eq_grow]
  exact ⟨by rw [size_grow]; exact Nat.lt_of_lt_of_le h.1 (Nat.le_add_right _ _), fun j v hv => by rw [cell?_grow _ _ _ h.1]; exact h.2 j v hv⟩
theorem reads_own {w : World} {base e g n cap : Nat} {V : List Value} (h : w.ownsRow base e 1 (.slice (some ⟨g, 0, none⟩) n cap) n V) : Reads w g V :=
  ⟨(h.lt g rfl).2, fun j u hu => by
    have hn := h.1
    have hj : j < V.length := (List.getElem?_eq_some_iff.1 hu).1
    rw [h.cellAt j (by omega)]; exact hu⟩

/-- The row of rows, under way: the last group may still grow; those ahead of it are closed. -/
def GState (base : Nat) (w : World) (vo : Value) (G : List (List Int)) : Prop :=
  ∃ (go capo : Nat) (C : List Grp), vo = .slice (some ⟨go, 0, none⟩) G.length capo ∧ w.ownsRow base 20 1 vo G.length (C.map Grp.val) ∧ G = C.map (·.l) ∧
    (∀ x ∈ C, base ≤ x.g ∧ x.g ≠ go ∧ Reads w x.g (anyI x.l)) ∧
    (∀ C0 c, C = C0 ++ [c] → w.ownsRow base 20 1 (.slice (some ⟨c.g, 0, none⟩) c.l.length c.cap) c.l.length (anyI c.l) ∧ ∀ x ∈ C0, x.g ≠ c.g)

/-- ONE append INSIDE A REGION THAT DRAWS, of one cell of whatever value, with where the new slice lies. -/
theorem step_append1 (base : Nat) (W0 : World) (H0 : Nat) (hH0 : W0.heap.size = H0) (u : Value) (n : Nat) (xs : List Value) (val : Value) (h1 : val.oneCell' = true) (hown : W0.ownsRow base 20 1 u n xs) (hbs : base ≤ W0.heap.size) (hlen : n ≤ 1048577)
    {ops : Array Oper} {o : Oper} {a : Act} {K : Act → World → Prop} {Q : Exit → Act → World → Prop} {E : Prop} (hg : o.guard = none) (s x : Operand) (ho : o.op = .call { callee := .builtin .append, args := #[s, x], argTypes := #[25, 25] })
    (hs : a.eval s = u) (hx : a.eval x = .slice (some ⟨H0, 0, none⟩) 1 1)
    (hK : ∀ g cap w3, w3.ownsRow base 20 1 (.slice (some ⟨g, 0, none⟩) (n + 1) cap) (n + 1) (xs ++ [val]) → (W0.alloc (.cells #[val] 20)).grownBy w3 u.ownBlock → (u.ownBlock = some g ∨ g = H0 + 1) → g < w3.heap.size → K (a.put o.dst (.slice (some ⟨g, 0, none⟩) (n + 1) cap)) w3) :
    if Region.wanted o (yielded ops a.tmps) = true then Oper.wp Tryz.prog o a (W0.alloc (.cells #[val] 20)).drew K Q else E := by
  subst hH0
  obtain ⟨i0, hi, hz0, hz1, hz2⟩ := info_parts Tryz.infoAny
  have hownA : (W0.alloc (.cells #[val] 20)).drew.ownsRow base 20 1 u n xs := (hown.alloc _).drew
  have hbsA : base ≤ (W0.alloc (.cells #[val] 20)).drew.heap.size := by
    show base ≤ (W0.alloc (.cells #[val] 20)).heap.size
    simp; omega
  refine step_append_lies _ hg s x 25 ho base 20 i0 .nilIface 1 16 Tryz.underlying25 hi hz0 hz1 hz2 rfl (by decide) u n xs hs hownA ⟨W0.heap.size, 0, none⟩ 1 1 [val] hx rfl
    (cells_new W0 [val] _) (fun v hv => by simp at hv; subst hv; exact h1) (by omega) (by unfold maxLen; omega) (by omega) hbsA (W0.heap.size + 1) (by show (W0.alloc (.cells #[val] 20)).heap.size = _; simp) ?_
  intro g cap w3 hown3 hgrow3 hat hlt3
  exact hK g cap w3 hown3 ⟨hgrow3.os, hgrow3.tape, hgrow3.output, hgrow3.size, hgrow3.block⟩ hat hlt3

/-- A new group of one value. -/
theorem gstate_head {base H go g cap : Nat} {wr w3 : World} {C : List Grp} {G : List (List Int)} {xv : Int} (hH : wr.heap.size = H) (hbs : base ≤ H) (hGC : G = C.map (·.l)) (hgo : go < H)
    (hcl : ∀ x ∈ C, base ≤ x.g ∧ x.g ≠ go ∧ Reads wr x.g (anyI x.l))
    (hown3 : w3.ownsRow base 20 1 (.slice (some ⟨g, 0, none⟩) (G.length + 1) cap) (G.length + 1) (C.map Grp.val ++ [.iface 25 (.slice (some ⟨H, 0, none⟩) 1 1)]))
    (hgrow : ((wr.alloc (.cells #[.iface 3 (.int .i64 xv)] 20)).alloc (.cells #[.iface 25 (.slice (some ⟨H, 0, none⟩) 1 1)] 20)).grownBy w3 (some go))
    (hat : some go = some g ∨ g = H + 1 + 1) : GState base w3 (.slice (some ⟨g, 0, none⟩) (G.length + 1) cap) (G ++ [[xv]]) := by
  have hg : g = go ∨ g = H + 1 + 1 := hat.imp (fun h => (Option.some.inj h).symm) id
  have hlit : (wr.alloc (.cells #[.iface 3 (.int .i64 xv)] 20)).ownsRow base 20 1 (.slice (some ⟨H, 0, none⟩) 1 1) 1 (anyI [xv]) := by
    have := World.ownsRow_lit (base := base) (e := 20) (size := 1) wr #[.iface 3 (.int .i64 xv)] 1 (by omega) (by unfold maxLen; omega) rfl
    rw [hH] at this
    exact this
  have hnew := own_grown (hlit.alloc (.cells #[.iface 25 (.slice (some ⟨H, 0, none⟩) 1 1)] 20)) hgrow (by simp; omega)
  refine ⟨g, cap, C ++ [⟨H, 1, [xv]⟩], by simp, ?_, by simp [hGC], ?_, ?_⟩
  · have e : (C ++ [(⟨H, 1, [xv]⟩ : Grp)]).map Grp.val = C.map Grp.val ++ [.iface 25 (.slice (some ⟨H, 0, none⟩) 1 1)] := by simp [Grp.val]
    rw [e, List.length_append]
    exact hown3
  · intro x hx
    rcases List.mem_append.1 hx with hx | hx
    · obtain ⟨h1, h2, h3⟩ := hcl x hx
      have := h3.1
      exact ⟨h1, by omega, ((h3.alloc _).alloc _).grown hgrow (by simp; exact h2)⟩
    · obtain rfl : x = ⟨H, 1, [xv]⟩ := by simpa using hx
      exact ⟨hbs, by show H ≠ g; omega, reads_own hnew⟩
  · intro C0 c e
    obtain ⟨e1, e2⟩ := List.append_inj' e rfl
    obtain rfl : (⟨H, 1, [xv]⟩ : Grp) = c := by simpa using e2
    subst e1
    refine ⟨hnew, fun x hx => ?_⟩
    have := (hcl x hx).2.2.1
    show x.g ≠ H
    omega

/-- One value more in the last group. -/
theorem gstate_more {base H go capo g cap m : Nat} {wr w3 : World} {C0 : List Grp} {c : Grp} {xv : Int} (hH : wr.heap.size = H) (hgo : go < H) (hm : C0.length = m)
    (hownO : wr.ownsRow base 20 1 (.slice (some ⟨go, 0, none⟩) (m + 1) capo) (m + 1) ((C0 ++ [c]).map Grp.val)) (hcl : ∀ x ∈ C0 ++ [c], base ≤ x.g ∧ x.g ≠ go ∧ Reads wr x.g (anyI x.l)) (hne : ∀ x ∈ C0, x.g ≠ c.g)
    (hown3 : w3.ownsRow base 20 1 (.slice (some ⟨g, 0, none⟩) (c.l.length + 1) cap) (c.l.length + 1) (anyI c.l ++ [.iface 3 (.int .i64 xv)]))
    (hgrow : (wr.alloc (.cells #[.iface 3 (.int .i64 xv)] 20)).grownBy w3 (some c.g)) (hat : some c.g = some g ∨ g = H + 1) :
    GState base (w3.setCell ⟨go, m, none⟩ (.iface 25 (.slice (some ⟨g, 0, none⟩) (c.l.length + 1) cap))) (.slice (some ⟨go, 0, none⟩) (m + 1) capo) (C0.map (·.l) ++ [c.l ++ [xv]]) := by
  have hg : g = c.g ∨ g = H + 1 := hat.imp (fun h => (Option.some.inj h).symm) id
  obtain ⟨_, hcgo, hcr⟩ := hcl c (by simp)
  have hcH := hcr.1
  have hggo : g ≠ go := by omega
  subst hm
  have hO3 := own_grown (hownO.alloc (.cells #[.iface 3 (.int .i64 xv)] 20)) hgrow (by simp; exact fun h => hcgo h.symm)
  have hst := (hO3.stored C0.length (.iface 25 (.slice (some ⟨g, 0, none⟩) (c.l.length + 1) cap))).1
  have eset : ((C0 ++ [c]).map Grp.val).set C0.length (.iface 25 (.slice (some ⟨g, 0, none⟩) (c.l.length + 1) cap)) = (C0 ++ [(⟨g, cap, c.l ++ [xv]⟩ : Grp)]).map Grp.val := by
    rw [List.map_append, List.map_append, List.set_append_right _ _ (by simp)]
    simp [Grp.val]
  rw [eset] at hst
  have eany : anyI (c.l ++ [xv]) = anyI c.l ++ [.iface 3 (.int .i64 xv)] := by simp [anyI]
  have hnew : (w3.setCell ⟨go, C0.length, none⟩ (.iface 25 (.slice (some ⟨g, 0, none⟩) (c.l.length + 1) cap))).ownsRow base 20 1 (.slice (some ⟨g, 0, none⟩) (c.l ++ [xv]).length cap) (c.l ++ [xv]).length (anyI (c.l ++ [xv])) := by
    rw [eany, List.length_append]
    exact own_set hown3 hggo
  have hbase := (hown3.lt g rfl).1
  have hlenG : (C0.map (·.l) ++ [c.l ++ [xv]]).length = C0.length + 1 := by simp
  refine ⟨go, capo, C0 ++ [⟨g, cap, c.l ++ [xv]⟩], by rw [hlenG], by rw [hlenG]; exact hst, by simp, ?_, ?_⟩
  · intro x hx
    rcases List.mem_append.1 hx with hx | hx
    · obtain ⟨h1, h2, h3⟩ := hcl x (List.mem_append_left _ hx)
      exact ⟨h1, h2, ((h3.alloc _).grown hgrow (by simp; exact hne x hx)).set h2⟩
    · obtain rfl : x = ⟨g, cap, c.l ++ [xv]⟩ := by simpa using hx
      exact ⟨hbase, hggo, reads_own hnew⟩
  · intro C1 c1 e
    obtain ⟨e1, e2⟩ := List.append_inj' e rfl
    obtain rfl : (⟨g, cap, c.l ++ [xv]⟩ : Grp) = c1 := by simpa using e2
    subst e1
    refine ⟨hnew, fun x hx => ?_⟩
    have := (hcl x (List.mem_append_left _ hx)).2.2.1
    have := hne x hx
    show x.g ≠ g
    omega

/-- What group_by answers. -/
def Grouped (vs ks : List Int) (n : Nat) (w : World) (e : Ending) (w' : World) : Prop :=
  ∃ (go capo m : Nat) (C : List Grp) (d' : Array Nat), SortedIn (tlK (keyF ks)) 0 n d' ∧ PermIn 0 n (Array.range n) d' ∧ m = C.length ∧ e = .returned (.iface 25 (.slice (some ⟨go, 0, none⟩) m capo)) ∧
    Reads w' go (C.map Grp.val) ∧ C.map (·.l) = groupsF (fun x => vs.getD x 0) (keyF ks) d' n ∧ (∀ x ∈ C, Reads w' x.g (anyI x.l)) ∧ Below w.heap.size w w'

theorem a_arrP (v : Value) (w : World) : (Instr.typeAssert (.iface 25 v) 20 25 false).run Tryz.prog w = .ok v w := by kernel_rfl

set_option maxRecDepth 100000 in
set_option maxHeartbeats 6400000 in
theorem groupBy_any (a1 a2 : Option Addr) (c1 c2 n : Nat) (vs ks : List Int) (w : World) (hv : vs.length = n) (hk : ks.length = n) (hl : n ≤ 1048576) (r1 : Row w a1 (anyI vs)) (r2 : Row w a2 (anyI ks)) :
    Calls Tryz.prog 29 #[.iface 25 (.slice a1 n c1), .iface 25 (.slice a2 n c2)] w (Grouped vs ks n w) := by
  have h1 := fun (w : World) => n_nil w
  have h2 := fun (v : Value) (w : World) => a_arrP v w
  have mkI := fun (x : Value) (w : World) => run_makeInterface (P := Tryz.prog) w 25 x (by kernel_rfl)
  have HC : Hid (∀ s, Calls Tryz.prog 33 _ w fun e w' => ∃ (blk B : Nat) (d' : Array Nat), e = .returned (.tuple #[.slice (some ⟨blk, 0, none⟩) n n, .nilIface]) ∧ Hid (Below w.heap.size w w' ∧ SortedIn (tlK (keyF ks)) 0 n d' ∧ PermIn 0 n (Array.range n) d' ∧
      (∀ t, t < n → w'.cell? ⟨blk, t, none⟩ = some (.pointer (some ⟨B + d'[t]!, 0, none⟩))) ∧ Items w' B vs ks n ∧ w.heap.size ≤ blk ∧ blk < w'.heap.size ∧ w.heap.size ≤ B ∧ B + n ≤ w'.heap.size)) := fun s =>
    (sortItems_any s a1 a2 c1 c2 n vs ks w hv hk hl r1 r2).mono fun e w' ⟨blk, B, d', he, hr⟩ => ⟨blk, B, d', he, hr⟩
  have HK : Hid (ks.length = n) := hk
  clear hv hk r1 r2
  go_enter Tryz.func29, Tryz.ntmps29
  go_wp2_with (go_at_call 33; refine (HC.out _).mono ?_; rintro e w1 ⟨blk, B, d, rfl, HS⟩)
  obtain ⟨hb, hs, hp, hcell, hI, hblk1, hblk2, hB1, hB2⟩ := HS.out
  have HG0 : Hid (GState w1.heap.size (w1.alloc (.cells #[] 20)) (.slice (some ⟨w1.heap.size, 0, none⟩) 0 0) (groupsF (fun x => vs.getD x 0) (keyF ks) d 0)) :=
    ⟨w1.heap.size, 0, [], rfl, World.ownsRow_lit w1 #[] 0 (Nat.le_refl _) (by unfold maxLen; omega) rfl, rfl, by simp, fun C0 c e => by simp at e⟩
  have hb0 : Below w1.heap.size w1 (w1.alloc (.cells #[] 20)) := (Below.refl _ _).alloc (Nat.le_refl _) _
  clear hb hs hp hcell hI
  go_loopw [7, 8, 23] (fun v7 v8 v23 wr => ∃ k : Nat, k ≤ n ∧ v23 = .int .i64 k ∧ v8 = lastV (keyF ks) d k ∧ Hid (GState w1.heap.size wr v7 (groupsF (fun x => vs.getD x 0) (keyF ks) d k)) ∧ Below w1.heap.size w1 wr)
    (fun _ _ i _ => n - (intOf i).toNat)
  case atStart => exact ⟨0, by omega, rfl, rfl, HG0, hb0⟩
  case round =>
    clear HG0 hb0
    obtain ⟨k, hkn, rfl, hv8, HG, hb2⟩ := hrel
    obtain ⟨go, capo, C, hvo, hownO, hGC, hcl, hlast⟩ := HG.out
    have hglen := (groupsF_len (fun x => vs.getD x 0) (keyF ks) d k)
    obtain ⟨G, hG⟩ : ∃ G, groupsF (fun x => vs.getD x 0) (keyF ks) d k = G := ⟨_, rfl⟩
    rw [hG] at hvo hownO hGC hglen
    have HGE : Hid (groupsF (fun x => vs.getD x 0) (keyF ks) d k = G) := hG
    have HGC : Hid (G = C.map (·.l)) := hGC
    have HCL : Hid (∀ x ∈ C, w1.heap.size ≤ x.g ∧ x.g ≠ go ∧ Reads wr x.g (anyI x.l)) := hcl
    have HLA : Hid _ := hlast
    have HGL : Hid (G.length ≤ k ∧ ∀ l ∈ G, l.length ≤ k) := hglen
    obtain ⟨mm, hmm⟩ : ∃ mm, G.length = mm := ⟨_, rfl⟩
    rw [hmm] at hvo hownO
    subst hvo
    have HMM : Hid (G.length = mm) := hmm
    have HOWN : Hid (wr.ownsRow w1.heap.size 20 1 (.slice (some ⟨go, 0, none⟩) mm capo) mm (C.map Grp.val)) := hownO
    have hgolt := (hownO.lt go rfl)
    have hml : mm ≤ k := by rw [← hmm]; exact hglen.1
    clear HG hG hGC hcl hlast hglen hmm hownO
    by_cases hlt : k < n
    · obtain ⟨hb, hs, hp, hcell, hI, _⟩ := HS.out
      obtain ⟨x, hx⟩ : ∃ x, d[k]! = x := ⟨_, rfl⟩
      have hxn : x < n := by rw [← hx]; exact perm_lt hp k hlt
      have e1 := hcell k hlt
      have e2 := hI x hxn
      rw [hx] at e1
      obtain ⟨xv, hxv⟩ : ∃ xv, vs.getD x 0 = xv := ⟨_, rfl⟩
      obtain ⟨kv, hkv⟩ : ∃ kv, ks.getD x 0 = kv := ⟨_, rfl⟩
      rw [hxv, hkv] at e2
      have HKV : Hid (keyF ks d[k]! = kv) := by
        show _ = _
        rw [hx, keyF_at (by rw [HK.out]; exact hxn), ← hkv]
        simp [show x < ks.length by rw [HK.out]; exact hxn]
      have HXV : Hid (vs.getD d[k]! 0 = xv) := by show _ = _; rw [hx]; exact hxv
      have cs : ∀ w', Below w1.heap.size w1 w' → w'.cell? ⟨blk, k, none⟩ = some (.pointer (some ⟨B + x, 0, none⟩)) ∧ w'.cell? ⟨B + x, 0, none⟩ = some (.iface 3 (.int .i64 xv)) ∧ w'.cell? ⟨B + x, 1, none⟩ = some (.iface 3 (.int .i64 kv)) := fun w' h =>
        ⟨(h.cell (p := ⟨blk, k, none⟩) hblk2).trans e1, (h.cell (p := ⟨B + x, 0, none⟩) (by show B + x < w1.heap.size; omega)).trans e2.1, (h.cell (p := ⟨B + x, 1, none⟩) (by show B + x < w1.heap.size; omega)).trans e2.2⟩
      have CS : Hid _ := cs
      obtain ⟨f1, f2, f3⟩ := cs wr hb2
      have hkI : (k : Int) < (n : Int) := by omega
      have hsz := hb2.size
      have hbA := hb2.alloc hsz (.cells #[.iface 3 (.int .i64 xv)] 20)
      obtain ⟨f4, f5, f6⟩ := CS.out _ hbA
      have hbA2 := hbA.alloc (by simp; omega) (.cells #[.iface 25 (.slice (some ⟨wr.heap.size, 0, none⟩) 1 1)] 20)
      obtain ⟨f7, f8, f9⟩ := CS.out _ hbA2
      have HBA : Hid _ := hbA
      have HBA2 : Hid _ := hbA2
      clear hb hs hp hcell hI e1 e2 cs hxv hkv hx hbA hbA2
      by_cases hk0 : k = 0
      · have hd0 : ((k : Int) == 0) = true := by simp [hk0]
        have hhd : headAt (keyF ks) d k = true := decide_eq_true (.inl hk0)
        have HO : Hid (groupsF (fun x => vs.getD x 0) (keyF ks) d (k + 1) = groupsF (fun x => vs.getD x 0) (keyF ks) d k ++ [[vs.getD d[k]! 0]]) := groupsF_yes hhd
        clear hhd hv8 hk0
        go_wp2_with fail
        go_region_law (refine step_append1 w1.heap.size (wr.alloc (.cells #[.iface 3 (.int .i64 xv)] 20)) (wr.heap.size + 1) (by simp) (.slice (some ⟨go, 0, none⟩) mm capo) mm (C.map Grp.val) (.iface 25 (.slice (some ⟨wr.heap.size, 0, none⟩) 1 1)) rfl (HOWN.out.alloc _) HBA.out.size (by omega) rfl (.tmp 39) (.tmp 46) rfl (by simp [Act.eval]) (by simp [Act.eval]) ?_; intro g cap w3 hown3 hgrow hat hlt3; have hb3 : Below w1.heap.size w1 w3 := HBA2.out.grown hgrow HBA2.out.size (fun q hq => by simp [Value.ownBlock] at hq; omega); obtain ⟨g4, g5, g6⟩ := CS.out _ hb3)
        all_goals
          have HGS : Hid (GState w1.heap.size w3 (.slice (some ⟨g, 0, none⟩) (mm + 1) cap) (groupsF (fun x => vs.getD x 0) (keyF ks) d (k + 1))) := by
            show GState _ _ _ _
            rw [HO.out, HGE.out, HXV.out, ← HMM.out]
            rw [← HMM.out] at hown3
            exact gstate_head rfl hsz HGC.out hgolt.2 HCL.out hown3 hgrow (hat.imp (fun h => h) (fun h => h))
          have HLV : Hid (Value.iface 3 (.int .i64 kv) = lastV (keyF ks) d (k + 1)) := lastV_succ HKV.out
          clear hown3 hgrow hat
          go_wp2
          go_roundw
          case rel => exact ⟨k + 1, by omega, by go_num, HLV.out, HGS, hb3⟩
          case measure => simp [intOf]; omega
      · have hd0 : ((k : Int) == 0) = false := beq_eq_false_iff_ne.2 (by omega)
        rw [lastV_pos hk0] at hv8
        subst hv8
        obtain ⟨lk, hlk⟩ : ∃ lk, keyF ks d[k - 1]! = lk := ⟨_, rfl⟩
        rw [hlk]
        have HLK : Hid (keyF ks d[k - 1]! = lk) := hlk
        obtain ⟨c, hc⟩ : ∃ c, c = cmpI lk kv := ⟨_, rfl⟩
        have HCC : Hid (Calls Tryz.prog 34 #[.iface 3 (.int .i64 lk), .iface 3 (.int .i64 kv)] wr fun e w' => e = .returned (.int .i64 c) ∧ wr = w') := by
          show Calls _ _ _ _ _
          rw [hc]
          exact compareInt_any lk kv wr
        have hcz : c = 0 ↔ lk = kv := by rw [hc]; exact cmpI_zero
        clear hlk hc
        by_cases hke : lk = kv
        · have hc0 : (c != 0) = false := by simp [hcz.2 hke]
          have hhd : headAt (keyF ks) d k = false := decide_eq_false (by
            rintro (h | h)
            · exact hk0 h
            · exact h (by rw [HLK.out, HKV.out]; exact hke))
          have HLV : Hid (Value.iface 3 (.int .i64 lk) = lastV (keyF ks) d (k + 1)) := lastV_succ (HKV.out.trans hke.symm)
          obtain ⟨C0, gc, hC⟩ : ∃ C0 gc, C = C0 ++ [gc] := by
            have hne : groupsF (fun x => vs.getD x 0) (keyF ks) d k ≠ [] := groupsF_ne _ _ _ hk0
            rw [HGE.out, HGC.out] at hne
            have hCne : C ≠ [] := fun h => hne (by rw [h]; rfl)
            exact ⟨C.dropLast, C.getLast hCne, (List.dropLast_concat_getLast hCne).symm⟩
          subst hC
          have hGe : groupsF (fun x => vs.getD x 0) (keyF ks) d k = C0.map (·.l) ++ [gc.l] := by rw [HGE.out, HGC.out]; simp
          have HO : Hid (groupsF (fun x => vs.getD x 0) (keyF ks) d (k + 1) = C0.map (·.l) ++ [gc.l ++ [vs.getD d[k]! 0]]) := groupsF_no hhd hGe
          obtain ⟨m, hm⟩ : ∃ m, C0.length = m := ⟨_, rfl⟩
          have hmm2 : mm = m + 1 := by rw [← HMM.out, HGC.out, ← hm]; simp
          subst hmm2
          obtain ⟨hla1, hla2⟩ := HLA.out C0 gc rfl
          have hgl : gc.l.length ≤ k := HGL.out.2 gc.l (by rw [HGC.out]; simp)
          have hO := HOWN.out
          have q1 : wr.cell? ⟨go, m, none⟩ = some (.iface 25 (.slice (some ⟨gc.g, 0, none⟩) gc.l.length gc.cap)) := by
            rw [hO.cellAt m (by omega)]
            rw [List.map_append, List.getElem?_append_right (by simp; omega)]
            simp [hm, Grp.val]
          have q2 : (wr.alloc (.cells #[.iface 3 (.int .i64 xv)] 20)).cell? ⟨go, m, none⟩ = some (.iface 25 (.slice (some ⟨gc.g, 0, none⟩) gc.l.length gc.cap)) := by
            rw [alloc_eq_grow, cell?_grow _ _ _ (by exact hgolt.2)]; exact q1
          have q3 : ∀ w3 : World, w3.ownsRow w1.heap.size 20 1 (.slice (some ⟨go, 0, none⟩) (m + 1) capo) (m + 1) ((C0 ++ [gc]).map Grp.val) → w3.cell? ⟨go, m, none⟩ = some (.iface 25 (.slice (some ⟨gc.g, 0, none⟩) gc.l.length gc.cap)) := fun w3 h => by
            rw [h.cellAt m (by omega)]
            rw [List.map_append, List.getElem?_append_right (by simp; omega)]
            simp [hm, Grp.val]
          have HLA1 : Hid _ := hla1
          have HM : Hid (C0.length = m) := hm
          have hgcgo := (HCL.out gc (by simp)).2.1
          have hmI : (m : Int) < (m : Int) + 1 := by omega
          have hwr : IntKind.i64.wrap (m : Int) = (m : Int) := wrap_small _ (by omega) (by omega)
          clear hhd hcz hke hm hla1 hO hGe
          go_wp2_with (go_at_call 34; refine HCC.out.mono ?_; rintro e w' ⟨rfl, rfl⟩)
          go_region_law (refine step_append1 w1.heap.size wr wr.heap.size rfl (.slice (some ⟨gc.g, 0, none⟩) gc.l.length gc.cap) gc.l.length (anyI gc.l) (.iface 3 (.int .i64 xv)) rfl HLA1.out hsz (by omega) rfl (.tmp 62) (.tmp 67) rfl (by simp [Act.eval]) (by simp [Act.eval]) ?_; intro g cap w3 hown3 hgrow hat hlt3; have hO3 := own_grown (HOWN.out.alloc (.cells #[.iface 3 (.int .i64 xv)] 20)) hgrow (by simp [Value.ownBlock]; exact fun h => hgcgo h.symm); have g7 := q3 w3 hO3; have g8 := hO3.frozenAt m; have hb3 : Below w1.heap.size w1 w3 := HBA.out.grown hgrow HBA.out.size (fun q hq => by simp [Value.ownBlock] at hq; have := (HCL.out gc (by simp)).1; omega))
          all_goals
            have HGS : Hid (GState w1.heap.size (w3.setCell ⟨go, m, none⟩ (.iface 25 (.slice (some ⟨g, 0, none⟩) (gc.l.length + 1) cap))) (.slice (some ⟨go, 0, none⟩) (m + 1) capo) (groupsF (fun x => vs.getD x 0) (keyF ks) d (k + 1))) := by
              show GState _ _ _ _
              rw [HO.out, HXV.out]
              exact gstate_more rfl hgolt.2 HM.out HOWN.out HCL.out hla2 hown3 hgrow (hat.imp (fun h => h) (fun h => h))
            have hb4 : Below w1.heap.size w1 (w3.setCell ⟨go, m, none⟩ (.iface 25 (.slice (some ⟨g, 0, none⟩) (gc.l.length + 1) cap))) := hb3.setCell (by exact hgolt.1) _
            clear hown3 hgrow hat hO3 hb3 hla2
            go_wp2
            go_roundw
            case rel => exact ⟨k + 1, by omega, by go_num, HLV.out, HGS, hb4⟩
            case measure => simp [intOf]; omega
        · have hc0 : (c != 0) = true := by simp [hcz, hke]
          have hhd : headAt (keyF ks) d k = true := decide_eq_true (.inr (by rw [HLK.out, HKV.out]; exact hke))
          have HO : Hid (groupsF (fun x => vs.getD x 0) (keyF ks) d (k + 1) = groupsF (fun x => vs.getD x 0) (keyF ks) d k ++ [[vs.getD d[k]! 0]]) := groupsF_yes hhd
          clear hhd hcz hke
          go_wp2_with (go_at_call 34; refine HCC.out.mono ?_; rintro e w' ⟨rfl, rfl⟩)
          go_region_law (refine step_append1 w1.heap.size (wr.alloc (.cells #[.iface 3 (.int .i64 xv)] 20)) (wr.heap.size + 1) (by simp) (.slice (some ⟨go, 0, none⟩) mm capo) mm (C.map Grp.val) (.iface 25 (.slice (some ⟨wr.heap.size, 0, none⟩) 1 1)) rfl (HOWN.out.alloc _) HBA.out.size (by omega) rfl (.tmp 39) (.tmp 46) rfl (by simp [Act.eval]) (by simp [Act.eval]) ?_; intro g cap w3 hown3 hgrow hat hlt3; have hb3 : Below w1.heap.size w1 w3 := HBA2.out.grown hgrow HBA2.out.size (fun q hq => by simp [Value.ownBlock] at hq; omega); obtain ⟨g4, g5, g6⟩ := CS.out _ hb3)
          all_goals
            have HGS : Hid (GState w1.heap.size w3 (.slice (some ⟨g, 0, none⟩) (mm + 1) cap) (groupsF (fun x => vs.getD x 0) (keyF ks) d (k + 1))) := by
              show GState _ _ _ _
              rw [HO.out, HGE.out, HXV.out, ← HMM.out]
              rw [← HMM.out] at hown3
              exact gstate_head rfl hsz HGC.out hgolt.2 HCL.out hown3 hgrow (hat.imp (fun h => h) (fun h => h))
            have HLV : Hid (Value.iface 3 (.int .i64 kv) = lastV (keyF ks) d (k + 1)) := lastV_succ HKV.out
            clear hown3 hgrow hat
            go_wp2
            go_roundw
            case rel => exact ⟨k + 1, by omega, by go_num, HLV.out, HGS, hb3⟩
            case measure => simp [intOf]; omega
    · obtain rfl : k = n := by omega
      have hb := HS.out.1
      go_wp2
      go_ret
      refine ⟨go, capo, mm, C, d, HS.out.2.1, HS.out.2.2.1, by rw [← HMM.out, HGC.out, List.length_map], rfl, reads_own HOWN.out, by rw [HGE.out]; exact HGC.out.symm, fun x hx => (HCL.out x hx).2.2, hb.trans (hb2.mono hb.size)⟩
end Go.Proofs.YtheochfpidahmaaGreatDoor
