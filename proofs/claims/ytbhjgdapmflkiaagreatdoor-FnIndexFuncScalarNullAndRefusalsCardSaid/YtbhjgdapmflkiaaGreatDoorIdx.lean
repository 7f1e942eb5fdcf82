/-
  indices over two arrays of ints: the positions at which the needle occurs, in order; by its contract.
-/
import Derived.Test.YtbhjgdapmflkiaaGreatDoorToAny
namespace Go.Proofs.YtbhjgdapmflkiaaGreatDoor
open Go Go.RowKit


/-- Does the needle occur at i? -/
def matchAt (vs xs : List Int) (i : Nat) : Bool := decide ((vs.drop i).take xs.length = xs)
/-- The occurrences below k, as ints. -/
def occK (vs xs : List Int) (k : Nat) : List Int := ((List.range k).filter (matchAt vs xs)).map fun (i : Nat) => (i : Int)
theorem occK_zero (vs xs : List Int) : occK vs xs 0 = [] := rfl
theorem occK_hit (vs xs : List Int) (k : Nat) (h : matchAt vs xs k = true) : occK vs xs (k + 1) = occK vs xs k ++ [(k : Int)] := by
  simp [occK, List.range_succ, List.filter_append, h]
theorem occK_miss (vs xs : List Int) (k : Nat) (h : matchAt vs xs k = false) : occK vs xs (k + 1) = occK vs xs k := by
  simp [occK, List.range_succ, List.filter_append, h]
theorem occK_len (vs xs : List Int) (k : Nat) : (occK vs xs k).length ≤ k := by
  simp only [occK, List.length_map]
  exact Nat.le_trans (List.length_filter_le _ _) (by simp)
/-- All occurrences: none for an empty needle. -/
def occs (vs xs : List Int) : List Int := if xs.length = 0 then [] else occK vs xs (vs.length + 1 - xs.length)

set_option maxRecDepth 100000 in
theorem slice_mid (b off n c k m : Nat) (hm : 0 < m) (h : k + m ≤ c) (w : World) :
    (Instr.slice 41 (.slice (some ⟨b, off, none⟩) n c) (some (.int .i64 (k : Int))) (some (.int .i64 ((k : Int) + (m : Int)))) none).run Tryz.prog w = .ok (.slice (some ⟨b, off + k, none⟩) m (c - k)) w := by
  have ht : Tryz.prog.underlying 41 = some (.slice (Tryz.prog.elem 41)) := by kernel_rfl
  have hz : (sizeOf (Tryz.prog.elem 41)).run Tryz.prog w = .ok 1 w := by kernel_rfl
  have e := run_slice_lh (P := Tryz.prog) (w := w) 41 (some ⟨b, off, none⟩) n c ht .i64 .i64 (k : Int) ((k : Int) + (m : Int)) (by omega) (by omega) (by omega)
  rw [e, hz]
  have e1 : ((k : Int) + (m : Int)).toNat = k + m := by omega
  have e2 : (k : Int).toNat = k := by omega
  simp only [Result.andThen_ok, sliced, e1, e2]
  rw [if_neg (by omega)]
  simp only [Option.map_some, Nat.mul_one, Addr.add_lit]
  congr 3
  omega

theorem Row.sub {w : World} {b off : Nat} {vs : List Int} (hb : b < w.heap.size) (hc : ∀ j u, (anyI vs)[j]? = some u → w.cell? ⟨b, off + j, none⟩ = some u) (k m : Nat) : Row w (some ⟨b, off + k, none⟩) (anyI ((vs.drop k).take m)) := by
  refine .inr ⟨b, off + k, rfl, hb, fun j u hu => ?_⟩
  have h1 : (anyI vs)[k + j]? = some u := by
    have hj : j < ((vs.drop k).take m).length := by
      have := (List.getElem?_eq_some_iff.1 hu).1
      rwa [anyI_len] at this
    rw [anyI_get _ hj] at hu
    simp only [List.length_take, List.length_drop] at hj
    rw [anyI_get vs (by omega)]
    rw [← hu]
    simp
  rw [Nat.add_assoc]
  exact hc _ _ h1
theorem take_drop_len (vs : List Int) (k m : Nat) (h : k + m ≤ vs.length) : ((vs.drop k).take m).length = m := by simp; omega

/-- The result is a slice in an interface value that the call has made, with these cells; what was there before is as it was. -/
def MadeAny (w : World) (vs : List Value) (en : Ending) (w' : World) : Prop :=
  ∃ a cap n, n = vs.length ∧ en = .returned (.iface 41 (.slice a n cap)) ∧ w'.ownsRow w.heap.size 20 1 (.slice a n cap) n vs ∧ Below w.heap.size w w'

set_option maxRecDepth 100000 in
set_option maxHeartbeats 1600000 in
theorem indices_any (a1 a2 : Option Addr) (c1 c2 : Nat) (vs xs : List Int) (w : World) (hl1 : vs.length ≤ 65536) (hl2 : xs.length ≤ 65536) (hc1 : vs.length ≤ c1) (r1 : Row w a1 (anyI vs)) (r2 : Row w a2 (anyI xs)) :
    Calls Tryz.prog 33 #[.slice a1 vs.length c1, .slice a2 xs.length c2] w (MadeAny w (anyI (occs vs xs))) := by
  obtain ⟨i0, hi, hz0, hz1, hz2⟩ := info_parts Tryz.infoAny
  have mk := fun (x : Value) (w : World) => run_makeInterface (P := Tryz.prog) w 41 x (by kernel_rfl)
  have mk2 := fun (x : Value) (w : World) => run_makeInterface (P := Tryz.prog) w 3 x (by kernel_rfl)
  by_cases h0 : xs.length = 0
  · have hx : xs = [] := List.eq_nil_of_length_eq_zero h0
    subst hx
    go_enter Tryz.func33, Tryz.ntmps33
    go_wp2
    go_ret
    refine ⟨some ⟨w.heap.size, 0, none⟩, 0, 0, rfl, rfl, ?_, (Below.refl _ _).alloc (Nat.le_refl _) _⟩
    exact World.ownsRow_lit w #[] 0 (Nat.le_refl _) (by unfold maxLen; omega) rfl
  · have hocc : Hid (occs vs xs = occK vs xs (vs.length + 1 - xs.length)) := by show occs vs xs = _; unfold occs; rw [if_neg h0]
    have hpos : 0 < xs.length := by omega
    have hne : ((xs.length : Int) == 0) = false := beq_eq_false_iff_ne.2 (by omega)
    go_enter Tryz.func33, Tryz.ntmps33
    go_wp2
    have hown0 : (w.alloc (.cells #[] 20)).ownsRow w.heap.size 20 1 (.slice (some ⟨w.heap.size, 0, none⟩) 0 0) (anyI (occK vs xs 0)).length (anyI (occK vs xs 0)) :=
      World.ownsRow_lit w #[] 0 (Nat.le_refl _) (by unfold maxLen; omega) rfl
    have hb0 : Below w.heap.size w (w.alloc (.cells #[] 20)) := (Below.refl _ _).alloc (Nat.le_refl _) _
    go_loopw [5, 19] (fun v i wr => ∃ k : Nat, (k = 0 ∨ k + xs.length ≤ vs.length + 1) ∧ i = .int .i64 k ∧ wr.ownsRow w.heap.size 20 1 v (anyI (occK vs xs k)).length (anyI (occK vs xs k)) ∧ Below w.heap.size w wr)
      (fun _ i _ => vs.length + 1 - (intOf i).toNat)
    case atStart => exact ⟨0, .inl rfl, rfl, hown0, hb0⟩
    case round =>
      clear hown0 hb0
      obtain ⟨k, hk, rfl, hown, hb⟩ := hrel
      have hsz : w.heap.size ≤ wr.heap.size := hb.size
      by_cases hlt : k + xs.length ≤ vs.length
      · obtain ⟨b, off, rfl, hbw, hc⟩ := r1.at (k := k) (by rw [anyI_len]; omega)
        have hsl := fun w => slice_mid b off vs.length c1 k xs.length hpos (by omega) w
        have hc' : ∀ j u, (anyI vs)[j]? = some u → wr.cell? ⟨b, off + j, none⟩ = some u := fun j u hu => (hb.cell (p := ⟨b, off + j, none⟩) hbw).trans (hc j u hu)
        have R1 := Row.sub (w := wr) (b := b) (off := off) (vs := vs) (Nat.lt_of_lt_of_le hbw hsz) hc' k xs.length
        have R2 := r2.below (Nat.le_refl _) hb
        have e1 := take_drop_len vs k xs.length hlt
        have HC := compareArr_any (some ⟨b, off + k, none⟩) a2 (c1 - k) c2 ((vs.drop k).take xs.length) xs wr (by omega) (by omega) R1 R2
        rw [e1] at HC
        have HC' : Hid (Calls Tryz.prog 32 _ wr _) := HC
        clear HC R1 R2 e1 hc hc'
        obtain ⟨c, hcc⟩ : ∃ c, c = cmpL ((vs.drop k).take xs.length) xs := ⟨_, rfl⟩
        rw [← hcc] at HC'
        have HCC : Hid (c = cmpL ((vs.drop k).take xs.length) xs) := hcc
        clear hcc
        go_wp2_with fail
        refine HC'.out.mono ?_
        rintro e w2 ⟨rfl, hd⟩
        have hown2 := own_below' hown (hd.below _)
        have hb2 := hb.trans (hd.below _)
        have hsz2 : w.heap.size ≤ w2.heap.size := hb2.size
        clear HC' hown hb hd hsl
        by_cases hz : c = 0
        · have hm : matchAt vs xs k = true := by
            unfold matchAt
            rw [decide_eq_true_eq]
            exact (cmpL_zero _ _).1 (HCC.out.symm.trans hz)
          have HO : Hid (occK vs xs (k + 1) = occK vs xs k ++ [(k : Int)]) := occK_hit vs xs k hm
          have hlen := occK_len vs xs k
          have hl3 := anyI_len (occK vs xs k)
          have HL : Hid ((anyI (occK vs xs k)).length ≤ 65537) := by show _ ≤ _; omega
          clear hlen hl3 hm
          subst hz
          go_wp2_with (at_builtin; refine wpList_append_own _ rfl _ _ 41 rfl w.heap.size 20 i0 .nilIface 1 16 Tryz.underlying41 hi hz0 hz1 hz2 rfl (by decide) _ _ _ rfl (hown2.alloc _) ⟨w2.heap.size, 0, none⟩ 1 1 [.iface 3 (.int .i64 k)] rfl rfl (cells_new _ [.iface 3 (.int .i64 k)] _) (fun u hu => by simp at hu; subst hu; rfl) ?_ ?_ ?_ ?_)
          · have := HL.out; unfold maxLen; omega
          · have := HL.out; omega
          · simp; omega
          intro v3 w3 hown3 hgrow3 _
          have hb3 := below_own' (hb2.alloc hsz2 _) (by simp; omega) (hown2.alloc _) hgrow3
          have R : w3.ownsRow w.heap.size 20 1 v3 (anyI (occK vs xs (k + 1))).length (anyI (occK vs xs (k + 1))) := by
            rw [HO.out]
            simpa [anyI] using hown3
          clear hown2 hown3 hgrow3 hb2
          go_wp2
          go_roundw
          case rel => exact ⟨k + 1, .inr (by omega), by go_num, R, hb3⟩
          case measure => simp [intOf]; omega
        · have hm : matchAt vs xs k = false := by
            unfold matchAt
            rw [decide_eq_false_iff_not]
            intro e
            exact hz (HCC.out.trans ((cmpL_zero _ _).2 e))
          have HO : Hid (occK vs xs (k + 1) = occK vs xs k) := occK_miss vs xs k hm
          have R : w2.ownsRow w.heap.size 20 1 u5 (anyI (occK vs xs (k + 1))).length (anyI (occK vs xs (k + 1))) := by rw [HO.out]; exact hown2
          clear hown2 hm
          go_wp2
          go_roundw
          case rel => exact ⟨k + 1, .inr (by omega), by go_num, R, hb2⟩
          case measure => simp [intOf]; omega
      · go_wp2
        go_ret
        have hk' : k = vs.length + 1 - xs.length := by omega
        have HO : occs vs xs = occK vs xs k := by rw [hocc.out, hk']
        rcases hown.2 with ⟨rfl, hn⟩ | ⟨g, cap, cur, rfl, _⟩
        · refine ⟨none, 0, 0, ?_, rfl, ?_, hb⟩
          · rw [HO]; exact hn.symm
          · rw [HO]; rw [hn] at hown; exact hown
        · refine ⟨some ⟨g, 0, none⟩, cap, _, ?_, rfl, ?_, hb⟩
          · rw [HO]
          · rw [HO]; exact hown
end Go.Proofs.YtbhjgdapmflkiaaGreatDoor
