/-
  uniqueBy at two rows of ints of one length: the first value of each run of equal keys; by its contract (folder n001_68).
-/
import Derived.Test.YtheochfpidahmaaGreatDoorItems2
import Derived.Test.YtheochfpidahmaaGreatDoorHeads
import Derived.Deep.AppendLies
import Derived.Deep.RegionLaw
namespace Go.Proofs.YtheochfpidahmaaGreatDoor
open Go Go.RowKit Go.Sort Go.Proofs

theorem n_nil (w : World) : (binOp .neq 40 .nilIface .nilIface).run Tryz.prog w = .ok (.bool false) w := by kernel_rfl

/-- The values at the runs' beginnings. -/
def uniqL (vs ks : List Int) (d : Array Nat) (k : Nat) : List Int := (headsK (keyF ks) d k).map fun x => vs.getD x 0
theorem uniqL_yes {vs ks : List Int} {d : Array Nat} {k : Nat} (h : headAt (keyF ks) d k = true) : uniqL vs ks d (k + 1) = uniqL vs ks d k ++ [vs.getD d[k]! 0] := by
  unfold uniqL; rw [headsK_yes h, List.map_append]; rfl
theorem uniqL_no {vs ks : List Int} {d : Array Nat} {k : Nat} (h : headAt (keyF ks) d k = false) : uniqL vs ks d (k + 1) = uniqL vs ks d k := by
  unfold uniqL; rw [headsK_no h]
theorem uniqL_len (vs ks : List Int) (d : Array Nat) (k : Nat) : (uniqL vs ks d k).length ≤ k := by
  unfold uniqL; rw [List.length_map]; exact headsK_len _ _ k

/-- The key met last, as an interface value; nil ahead of the first. -/
def lastV (K : Nat → Int) (d : Array Nat) : Nat → Value
  | 0 => .nilIface
  | k + 1 => .iface 3 (.int .i64 (K d[k]!))
theorem lastV_pos {K : Nat → Int} {d : Array Nat} {k : Nat} (h : k ≠ 0) : lastV K d k = .iface 3 (.int .i64 (K d[k - 1]!)) := by
  cases k with
  | zero => exact absurd rfl h
  | succ k => rfl

theorem lastV_succ {K : Nat → Int} {d : Array Nat} {k : Nat} {kv : Int} (h : K d[k]! = kv) : Value.iface 3 (.int .i64 kv) = lastV K d (k + 1) := by
  subst h; rfl

/-- What unique_by answers. -/
def Uniq (vs ks : List Int) (n : Nat) (w : World) (e : Ending) (w' : World) : Prop :=
  ∃ (a : Option Addr) (m cap : Nat) (d' : Array Nat), SortedIn (tlK (keyF ks)) 0 n d' ∧ PermIn 0 n (Array.range n) d' ∧ m = (uniqL vs ks d' n).length ∧ e = .returned (.iface 25 (.slice a m cap)) ∧ Row w' a (anyI (uniqL vs ks d' n)) ∧ Below w.heap.size w w'

/-- ONE append INSIDE A REGION THAT DRAWS: an int as an interface value, onto a row of the call's own; what lies below 'base' is as it was. -/
theorem step_append (base : Nat) (w1 wr : World) (u : Value) (l : List Int) (xv : Int) (hown : wr.ownsRow base 20 1 u (anyI l).length (anyI l)) (hb : Below base w1 wr) (hsz : base ≤ wr.heap.size) (hlen : l.length ≤ 1048577)
    {ops : Array Oper} {o : Oper} {a : Act} {K : Act → World → Prop} {Q : Exit → Act → World → Prop} {E : Prop} (hg : o.guard = none) (s x : Operand) (ho : o.op = .call { callee := .builtin .append, args := #[s, x], argTypes := #[25, 25] })
    (hs : a.eval s = u) (hx : a.eval x = .slice (some ⟨wr.heap.size, 0, none⟩) 1 1)
    (hK : ∀ v w3, Below base w1 w3 → Hid (w3.ownsRow base 20 1 v (anyI (l ++ [xv])).length (anyI (l ++ [xv]))) → K (a.put o.dst v) w3) :
    if Region.wanted o (yielded ops a.tmps) = true then Oper.wp Tryz.prog o a (wr.alloc (.cells #[.iface 3 (.int .i64 xv)] 20)).drew K Q else E := by
  obtain ⟨i0, hi, hz0, hz1, hz2⟩ := info_parts Tryz.infoAny
  have hl := anyI_len l
  have hownA : (wr.alloc (.cells #[.iface 3 (.int .i64 xv)] 20)).drew.ownsRow base 20 1 u (anyI l).length (anyI l) := (hown.alloc _).drew
  have hbA : Below base w1 (wr.alloc (.cells #[.iface 3 (.int .i64 xv)] 20)).drew := (hb.alloc hsz _).drew
  have hbs : base ≤ (wr.alloc (.cells #[.iface 3 (.int .i64 xv)] 20)).drew.heap.size := by
    show base ≤ (wr.alloc (.cells #[.iface 3 (.int .i64 xv)] 20)).heap.size
    simp; omega
  refine step_append_lies _ hg s x 25 ho base 20 i0 .nilIface 1 16 Tryz.underlying25 hi hz0 hz1 hz2 rfl (by decide) u _ _ hs hownA ⟨wr.heap.size, 0, none⟩ 1 1 [.iface 3 (.int .i64 xv)] hx rfl
    (cells_new wr [.iface 3 (.int .i64 xv)] _) (fun u hu => by simp at hu; subst hu; rfl) (by omega) (by unfold maxLen; omega) (by omega) hbs _ rfl ?_
  intro g cap w3 hown3 hgrow3 _ _
  refine hK _ w3 (below_own' hbA hbs hownA hgrow3) ?_
  show World.ownsRow _ _ _ _ _ _ _
  simpa [anyI] using hown3

set_option maxRecDepth 100000 in
set_option maxHeartbeats 3200000 in
theorem uniqueBy_any (s : ByteArray) (a1 a2 : Option Addr) (c1 c2 n : Nat) (vs ks : List Int) (w : World) (hv : vs.length = n) (hk : ks.length = n) (hl : n ≤ 1048576) (r1 : Row w a1 (anyI vs)) (r2 : Row w a2 (anyI ks)) :
    Calls Tryz.prog 30 #[.string s, .iface 25 (.slice a1 n c1), .iface 25 (.slice a2 n c2)] w (Uniq vs ks n w) := by
  obtain ⟨i0, hi, hz0, hz1, hz2⟩ := info_parts Tryz.infoAny
  have h1 := fun (w : World) => n_nil w
  have mkI := fun (x : Value) (w : World) => run_makeInterface (P := Tryz.prog) w 25 x (by kernel_rfl)
  have HC : Hid (Calls Tryz.prog 33 _ w fun e w' => ∃ (blk B : Nat) (d' : Array Nat), e = .returned (.tuple #[.slice (some ⟨blk, 0, none⟩) n n, .nilIface]) ∧ Hid (Below w.heap.size w w' ∧ SortedIn (tlK (keyF ks)) 0 n d' ∧ PermIn 0 n (Array.range n) d' ∧
      (∀ t, t < n → w'.cell? ⟨blk, t, none⟩ = some (.pointer (some ⟨B + d'[t]!, 0, none⟩))) ∧ Items w' B vs ks n ∧ w.heap.size ≤ blk ∧ blk < w'.heap.size ∧ w.heap.size ≤ B ∧ B + n ≤ w'.heap.size)) :=
    (sortItems_any s a1 a2 c1 c2 n vs ks w hv hk hl r1 r2).mono fun e w' ⟨blk, B, d', he, hr⟩ => ⟨blk, B, d', he, hr⟩
  have HK : Hid (ks.length = n) := hk
  clear hv hk r1 r2
  go_enter Tryz.func30, Tryz.ntmps30
  go_wp2_with (go_at_call 33; refine HC.out.mono ?_; rintro e w1 ⟨blk, B, d, rfl, HS⟩)
  obtain ⟨hb, hs, hp, hcell, hI, hblk1, hblk2, hB1, hB2⟩ := HS.out
  have hown0 : (w1.alloc (.cells #[] 20)).ownsRow w1.heap.size 20 1 (.slice (some ⟨w1.heap.size, 0, none⟩) 0 0) (anyI (uniqL vs ks d 0)).length (anyI (uniqL vs ks d 0)) :=
    World.ownsRow_lit w1 #[] 0 (Nat.le_refl _) (by unfold maxLen; omega) rfl
  have hb0 : Below w1.heap.size w1 (w1.alloc (.cells #[] 20)) := (Below.refl _ _).alloc (Nat.le_refl _) _
  clear hb hs hp hcell hI
  go_loopw [9, 10, 26] (fun v9 v10 v26 wr => ∃ k : Nat, k ≤ n ∧ v26 = .int .i64 k ∧ v10 = lastV (keyF ks) d k ∧ wr.ownsRow w1.heap.size 20 1 v9 (anyI (uniqL vs ks d k)).length (anyI (uniqL vs ks d k)) ∧ Below w1.heap.size w1 wr)
    (fun _ _ i _ => n - (intOf i).toNat)
  case atStart => exact ⟨0, by omega, rfl, rfl, hown0, hb0⟩
  case round =>
    clear hown0 hb0
    obtain ⟨k, hkn, rfl, hv10, hown, hb2⟩ := hrel
    by_cases hlt : k < n
    · obtain ⟨hb, hs, hp, hcell, hI, _⟩ := HS.out
      obtain ⟨x, hx⟩ : ∃ x, d[k]! = x := ⟨_, rfl⟩
      have hxn : x < n := by rw [← hx]; exact perm_lt hp k hlt
      have e1 := hcell k hlt
      have e2 := hI x hxn
      rw [hx] at e1
      obtain ⟨xv, hxv⟩ : ∃ xv, vs.getD x 0 = xv := ⟨_, rfl⟩
      obtain ⟨kv, hkv⟩ : ∃ kv, ks.getD x 0 = kv := ⟨_, rfl⟩
      rw [hxv, hkv] at e2
      have HKV : Hid (keyF ks d[k]! = kv) := by
        show _ = _
        rw [hx, keyF_at (by rw [HK.out]; exact hxn), ← hkv]
        simp [show x < ks.length by rw [HK.out]; exact hxn]
      have HXV : Hid (vs.getD d[k]! 0 = xv) := by show _ = _; rw [hx]; exact hxv
      have cs : ∀ w', Below w1.heap.size w1 w' → w'.cell? ⟨blk, k, none⟩ = some (.pointer (some ⟨B + x, 0, none⟩)) ∧ w'.cell? ⟨B + x, 0, none⟩ = some (.iface 3 (.int .i64 xv)) ∧ w'.cell? ⟨B + x, 1, none⟩ = some (.iface 3 (.int .i64 kv)) := fun w' h =>
        ⟨(h.cell (p := ⟨blk, k, none⟩) hblk2).trans e1, (h.cell (p := ⟨B + x, 0, none⟩) (by show B + x < w1.heap.size; omega)).trans e2.1, (h.cell (p := ⟨B + x, 1, none⟩) (by show B + x < w1.heap.size; omega)).trans e2.2⟩
      have CS : Hid _ := cs
      obtain ⟨f1, f2, f3⟩ := cs wr hb2
      have hkI : (k : Int) < (n : Int) := by omega
      clear hb hs hp hcell hI e1 e2 cs hxv hkv hx
      -- the place begins a run
      have hlen := uniqL_len vs ks d k
      have HL : Hid ((uniqL vs ks d k).length ≤ 1048577) := by show _ ≤ _; omega
      have hsz := hb2.size
      have hbA := hb2.alloc hsz (.cells #[.iface 3 (.int .i64 xv)] 20)
      obtain ⟨f4, f5, f6⟩ := CS.out _ hbA
      have HOWN : Hid (wr.ownsRow w1.heap.size 20 1 u9 (anyI (uniqL vs ks d k)).length (anyI (uniqL vs ks d k))) := hown
      clear hbA hlen
      by_cases hk0 : k = 0
      · have hd0 : ((k : Int) == 0) = true := by simp [hk0]
        have hhd : headAt (keyF ks) d k = true := decide_eq_true (.inl hk0)
        have HO : Hid (uniqL vs ks d (k + 1) = uniqL vs ks d k ++ [vs.getD d[k]! 0]) := uniqL_yes hhd
        clear hhd hv10 hk0 hown
        go_wp2_with fail
        go_region_law (refine step_append w1.heap.size w1 wr u9 (uniqL vs ks d k) xv HOWN.out hb2 hsz HL.out rfl (.tmp 42) (.tmp 47) rfl (by simp [Act.eval]) (by simp [Act.eval]) ?_; intro v w3 hb3 HR; obtain ⟨g4, g5, g6⟩ := CS.out _ hb3)
        all_goals
          have R : w3.ownsRow w1.heap.size 20 1 v (anyI (uniqL vs ks d (k + 1))).length (anyI (uniqL vs ks d (k + 1))) := by rw [HO.out, HXV.out]; exact HR.out
          have HLV : Hid (Value.iface 3 (.int .i64 kv) = lastV (keyF ks) d (k + 1)) := lastV_succ HKV.out
          clear HOWN HL HR
          go_wp2
          go_roundw
          case rel => exact ⟨k + 1, by omega, by go_num, HLV.out, R, hb3⟩
          case measure => simp [intOf]; omega
      · have hd0 : ((k : Int) == 0) = false := beq_eq_false_iff_ne.2 (by omega)
        rw [lastV_pos hk0] at hv10
        subst hv10
        obtain ⟨lk, hlk⟩ : ∃ lk, keyF ks d[k - 1]! = lk := ⟨_, rfl⟩
        rw [hlk]
        have HLK : Hid (keyF ks d[k - 1]! = lk) := hlk
        obtain ⟨c, hc⟩ : ∃ c, c = cmpI lk kv := ⟨_, rfl⟩
        have HCC : Hid (Calls Tryz.prog 34 #[.iface 3 (.int .i64 lk), .iface 3 (.int .i64 kv)] wr fun e w' => e = .returned (.int .i64 c) ∧ wr = w') := by
          show Calls _ _ _ _ _
          rw [hc]
          exact compareInt_any lk kv wr
        have hcz : c = 0 ↔ lk = kv := by rw [hc]; exact cmpI_zero
        clear hlk hc
        by_cases hke : lk = kv
        · have hc0 : (c != 0) = false := by simp [hcz.2 hke]
          have hhd : headAt (keyF ks) d k = false := decide_eq_false (by
            rintro (h | h)
            · exact hk0 h
            · exact h (by rw [HLK.out, HKV.out]; exact hke))
          have HO : Hid (uniqL vs ks d (k + 1) = uniqL vs ks d k) := uniqL_no hhd
          have HLV : Hid (Value.iface 3 (.int .i64 lk) = lastV (keyF ks) d (k + 1)) := lastV_succ (HKV.out.trans hke.symm)
          have R : wr.ownsRow w1.heap.size 20 1 u9 (anyI (uniqL vs ks d (k + 1))).length (anyI (uniqL vs ks d (k + 1))) := by rw [HO.out]; exact hown
          clear hhd hcz hke hown
          go_wp2_with (go_at_call 34; refine HCC.out.mono ?_; rintro e w' ⟨rfl, rfl⟩)
          go_roundw
          case rel => exact ⟨k + 1, by omega, by go_num, HLV.out, R, hb2⟩
          case measure => simp [intOf]; omega
        · have hc0 : (c != 0) = true := by simp [hcz, hke]
          have hhd : headAt (keyF ks) d k = true := decide_eq_true (.inr (by rw [HLK.out, HKV.out]; exact hke))
          have HO : Hid (uniqL vs ks d (k + 1) = uniqL vs ks d k ++ [vs.getD d[k]! 0]) := uniqL_yes hhd
          clear hhd hcz hke hown
          go_wp2_with (go_at_call 34; refine HCC.out.mono ?_; rintro e w' ⟨rfl, rfl⟩)
          go_region_law (refine step_append w1.heap.size w1 wr u9 (uniqL vs ks d k) xv HOWN.out hb2 hsz HL.out rfl (.tmp 42) (.tmp 47) rfl (by simp [Act.eval]) (by simp [Act.eval]) ?_; intro v w3 hb3 HR; obtain ⟨g4, g5, g6⟩ := CS.out _ hb3)
          all_goals
            have R : w3.ownsRow w1.heap.size 20 1 v (anyI (uniqL vs ks d (k + 1))).length (anyI (uniqL vs ks d (k + 1))) := by rw [HO.out, HXV.out]; exact HR.out
            have HLV : Hid (Value.iface 3 (.int .i64 kv) = lastV (keyF ks) d (k + 1)) := lastV_succ HKV.out
            clear HOWN HL HR
            go_wp2
            go_roundw
            case rel => exact ⟨k + 1, by omega, by go_num, HLV.out, R, hb3⟩
            case measure => simp [intOf]; omega
    · obtain rfl : k = n := by omega
      have hb := HS.out.1
      go_wp2
      go_ret
      rcases hown.2 with ⟨rfl, hn⟩ | ⟨g, cap, cur, rfl, _⟩
      · refine ⟨none, 0, 0, d, HS.out.2.1, HS.out.2.2.1, ?_, rfl, ?_, hb.trans (hb2.mono hb.size)⟩
        · rw [anyI_len] at hn; exact hn.symm
        · exact .inl (List.eq_nil_of_length_eq_zero hn)
      · refine ⟨some ⟨g, 0, none⟩, _, cap, d, HS.out.2.1, HS.out.2.2.1, anyI_len _, rfl, ?_, hb.trans (hb2.mono hb.size)⟩
        exact row_of_owns hown
end Go.Proofs.YtheochfpidahmaaGreatDoor
