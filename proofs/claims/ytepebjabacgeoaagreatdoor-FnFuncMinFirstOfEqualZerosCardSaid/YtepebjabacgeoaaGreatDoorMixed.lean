/-
  The shim that makes values of several kinds (folder n001_91).
-/
import Derived.Test.YtepebjabacgeoaaGreatDoorClone
import Derived.Test.YtepebjabacgeoaaGreatDoorFloat2
namespace Go.Proofs.YtepebjabacgeoaaGreatDoor
open Go Go.RowKit

/-- The bits of one half. -/
theorem half_bits : (4602678819172646912 : Nat) = F 1 (-1) := by decide +kernel

/-- A value of the kind k that carries n (kinds 6 and 7: an empty array, an empty object of the call's own). -/
def MixR (k n : Int) (v : Value) : Prop :=
  (k = 0 ∧ v = .iface 3 (.int .i64 n)) ∨ (k = 1 ∧ v = .iface 38 (.float .f64 (F n 0))) ∨ (k = 2 ∧ v = .iface 38 (.float .f64 (F (n * 2 + 1) (-1)))) ∨
  (k = 3 ∧ v = .iface 9 (.string ⟨#[120]⟩)) ∨ (k = 4 ∧ v = .nilIface) ∨ (k = 5 ∧ v = .iface 4 (.bool true)) ∨
  (k = 6 ∧ ∃ a, v = .iface 26 (.slice (some a) 0 0)) ∨ (k = 7 ∧ ∃ m, v = .iface 60 m)
/-- The values so far. -/
def MixRow (ks ns : List Int) (vals : List Value) : Prop := ∀ (j : Nat) (u : Value), vals[j]? = some u → ∃ k n : Int, ks[j]? = some k ∧ ns[j]? = some n ∧ MixR k n u

theorem MixRow.push {ks ns : List Int} {vals : List Value} {k n : Int} {u : Value} (h : MixRow ks ns vals) (hk : ks[vals.length]? = some k) (hn : ns[vals.length]? = some n) (hu : MixR k n u) : MixRow ks ns (vals ++ [u]) := by
  intro j v hj
  rcases Nat.lt_or_ge j vals.length with hl | hl
  · rw [List.getElem?_append_left hl] at hj
    exact h j v hj
  · rw [List.getElem?_append_right hl] at hj
    have hj0 : j - vals.length < 1 := by simpa using (List.getElem?_eq_some_iff.1 hj).1
    obtain rfl : j = vals.length := by omega
    simp at hj
    subst hj
    exact ⟨k, n, hk, hn, hu⟩

theorem push_set (vals : List Value) (z u : Value) (r : Nat) : (vals ++ List.replicate (r + 1) z).set vals.length u = (vals ++ [u]) ++ List.replicate r z := by
  rw [List.set_append_right _ _ (Nat.le_refl _), Nat.sub_self, List.replicate_succ, List.set_cons_zero]
  simp

/-- ONE STORE of the filling, value by value. -/
theorem push_step {w wr : World} {g n cap : Nat} {e : TypeId} {vals : List Value} {z : Value} (u : Value) {k : Nat} (hk : k = vals.length) (hlt : k < n)
    (hown : wr.ownsRow w.heap.size e 1 (.slice (some ⟨g, 0, none⟩) n cap) n (vals ++ List.replicate (n - k) z)) (hb : Below w.heap.size w wr) :
    (wr.setCell ⟨g, k, none⟩ u).ownsRow w.heap.size e 1 (.slice (some ⟨g, 0, none⟩) n cap) n ((vals ++ [u]) ++ List.replicate (n - (k + 1)) z) ∧ Below w.heap.size w (wr.setCell ⟨g, k, none⟩ u) := by
  obtain ⟨h1, _⟩ := hown.stored k u
  rw [show n - k = n - (k + 1) + 1 by omega, hk, push_set, ← hk] at h1
  exact ⟨h1, hb.setCell (by simpa using (hown.lt g rfl).1) u⟩
theorem push_at (vals : List Value) (z : Value) (r : Nat) : (vals ++ List.replicate (r + 1) z)[vals.length]? = some z := by
  rw [List.getElem?_append_right (Nat.le_refl _), Nat.sub_self]
  rfl

theorem half_sum (n : Int) (h : n.natAbs < 4503599627370495) : floatBits .add .f64 (floatOfInt .f64 n) 4602678819172646912 = some (F (n * 2 + 1) (-1)) := by
  have e : F n 0 = F (n * 2 ^ 1) (-1) := by rw [F_shift n (-1) 1 (by omega) (by omega)]; rfl
  rw [F_ofInt, half_bits, e, F_add _ _ _ (by omega) (by omega) (by omega) (by omega) (by omega)]
  congr 2

set_option maxRecDepth 100000 in
set_option maxHeartbeats 3200000 in
theorem mixed_any (a1 a2 : Option Addr) (c1 c2 : Nat) (ns ks : List Int) (w : World) (hlen : ns.length = ks.length) (hl : ns.length ≤ 1099511627776) (hk : ∀ k ∈ ks, 0 ≤ k ∧ k ≤ 7) (hn : ∀ n ∈ ns, n.natAbs < 4503599627370495) (r1 : Row w a1 (intV ns)) (r2 : Row w a2 (intV ks)) :
    Calls Tryz.prog 16 #[.slice a1 ns.length c1, .slice a2 ks.length c2] w fun e w' => ∃ vals, Hid (MixRow ks ns vals) ∧ vals.length = ns.length ∧ MadeRow w 20 vals e w' := by
  obtain ⟨i0, hi, hz0, hz1, hz2⟩ := info_parts Tryz.infoAny
  have mk1 := fun (x : Value) (w : World) => run_makeInterface (P := Tryz.prog) w 3 x (by kernel_rfl)
  have mk2 := fun (x : Value) (w : World) => run_makeInterface (P := Tryz.prog) w 38 x (by kernel_rfl)
  have mk3 := fun (x : Value) (w : World) => run_makeInterface (P := Tryz.prog) w 9 x (by kernel_rfl)
  have mk4 := fun (x : Value) (w : World) => run_makeInterface (P := Tryz.prog) w 4 x (by kernel_rfl)
  have mk5 := fun (x : Value) (w : World) => run_makeInterface (P := Tryz.prog) w 26 x (by kernel_rfl)
  have mk6 := fun (x : Value) (w : World) => run_makeInterface (P := Tryz.prog) w 60 x (by kernel_rfl)
  have hmm := @run_makeMap Tryz.prog
  have HL : Hid (ns.length = ks.length) := hlen
  have HK : Hid (∀ k ∈ ks, 0 ≤ k ∧ k ≤ 7) := hk
  have HN : Hid (∀ n ∈ ns, n.natAbs < 4503599627370495) := hn
  clear hlen hk hn
  go_enter Tryz.func16, Tryz.ntmps16
  go_wp2_with (at_make; refine wpList_make_full _ rfl _ _ 26 rfl w.heap.size 20 i0 .nilIface 1 Tryz.underlying26 hi hz0 hz1 _ _ _ _ ns.length rfl rfl rfl rfl ?c1 ?c2 ?c3 ?_)
  case c1 => rw [hz2]; omega
  case c2 => unfold maxLen; omega
  case c3 => omega
  intro w1 hown hgrow
  have hb : Below w.heap.size w w1 := (Below.refl _ _).grown hgrow (Nat.le_refl _) (by intro k hk; cases hk)
  have hown' : w1.ownsRow w.heap.size 20 1 (.slice (some ⟨w.heap.size, 0, none⟩) ns.length ns.length) ns.length (([] : List Value) ++ List.replicate (ns.length - 0) .nilIface) := by
    rw [List.nil_append, Nat.sub_zero]
    simpa [Value.cells, toList_madeCells_one] using hown
  clear hown hgrow
  go_wp2
  go_loopw [13] (fun i wr => ∃ (k : Nat) (vals : List Value), k ≤ ns.length ∧ i = .int .i64 k ∧ Hid (k = vals.length) ∧ Hid (MixRow ks ns vals) ∧ wr.ownsRow w.heap.size 20 1 (.slice (some ⟨w.heap.size, 0, none⟩) ns.length ns.length) ns.length (vals ++ List.replicate (ns.length - k) .nilIface) ∧ Below w.heap.size w wr)
    (fun i _ => ns.length - (intOf i).toNat)
  case atStart => exact ⟨0, [], by omega, rfl, rfl, (by show MixRow ks ns []; intro j u h; simp at h), hown', hb⟩
  case round =>
    clear hown' hb
    obtain ⟨k, vals, hk, rfl, hkv, hmix, hown, hb⟩ := hrel
    by_cases hlt : k < ns.length
    · have hlt2 : k < ks.length := by have := HL.out; omega
      obtain ⟨b1, o1, rfl, hb1w, hc1⟩ := r1.at (k := k) (by rw [intV_len]; exact hlt)
      obtain ⟨b2, o2, rfl, hb2w, hc2⟩ := r2.at (k := k) (by rw [intV_len]; exact hlt2)
      have hck1 : wr.cell? ⟨b1, o1 + k, none⟩ = some (.int .i64 ns[k]) := (hb.cell (p := ⟨b1, o1 + k, none⟩) hb1w).trans (hc1 k _ (intV_get ns hlt))
      have hck2 : wr.cell? ⟨b2, o2 + k, none⟩ = some (.int .i64 ks[k]) := (hb.cell (p := ⟨b2, o2 + k, none⟩) hb2w).trans (hc2 k _ (intV_get ks hlt2))
      have hc3 : wr.cell? ⟨w.heap.size, k, none⟩ = some .nilIface := by
        rw [hown.cellAt k (by omega)]
        have e := hkv.out
        rw [show ns.length - k = ns.length - (k + 1) + 1 by omega]
        subst e
        exact push_at _ _ _
      have hf3 := hown.frozenAt k
      have hsz : w.heap.size ≤ wr.heap.size := hb.size
      have HV1 : Hid (ns[k]? = some ns[k]) := by show _ = _; exact List.getElem?_eq_getElem hlt
      have HV2 : Hid (ks[k]? = some ks[k]) := by show _ = _; exact List.getElem?_eq_getElem hlt2
      have hr := HK.out _ (List.getElem_mem hlt2)
      have hnr := HN.out _ (List.getElem_mem hlt)
      have HO : Hid (wr.ownsRow w.heap.size 20 1 (.slice (some ⟨w.heap.size, 0, none⟩) ns.length ns.length) ns.length (vals ++ List.replicate (ns.length - k) .nilIface)) := hown
      clear hc1 hc2 hown
      have next : ∀ u wr', wr'.ownsRow w.heap.size 20 1 (.slice (some ⟨w.heap.size, 0, none⟩) ns.length ns.length) ns.length (vals ++ List.replicate (ns.length - k) .nilIface) → Below w.heap.size w wr' → MixR ks[k] ns[k] u →
          Hid (k + 1 = (vals ++ [u]).length) ∧ Hid (MixRow ks ns (vals ++ [u])) ∧ (wr'.setCell ⟨w.heap.size, k, none⟩ u).ownsRow w.heap.size 20 1 (.slice (some ⟨w.heap.size, 0, none⟩) ns.length ns.length) ns.length ((vals ++ [u]) ++ List.replicate (ns.length - (k + 1)) .nilIface) ∧ Below w.heap.size w (wr'.setCell ⟨w.heap.size, k, none⟩ u) := by
        intro u wr' ho' hb' hm
        have e := hkv.out
        obtain ⟨q1, q2⟩ := push_step u e hlt ho' hb'
        refine ⟨by show _ = _; rw [List.length_append, ← e]; rfl, ?_, q1, q2⟩
        refine hmix.out.push (k := ks[k]) (n := ns[k]) ?_ ?_ hm
        · rw [← e]; exact HV2.out
        · rw [← e]; exact HV1.out
      have NX : Hid (∀ u wr', _ → _ → _ → _) := next
      clear next
      generalize hkk : ks[k] = kk at *
      generalize hnn : ns[k] = nn at *
      clear hkk hnn HV1 HV2
      rcases (show kk = 0 ∨ kk = 1 ∨ kk = 2 ∨ kk = 3 ∨ kk = 4 ∨ kk = 5 ∨ kk = 6 ∨ kk = 7 by omega) with rfl | rfl | rfl | rfl | rfl | rfl | rfl | rfl
      · obtain ⟨p1, p2, p3, p4⟩ := NX.out _ wr HO.out hb (.inl ⟨rfl, rfl⟩)
        clear NX HO hb
        go_wp2
        go_roundw
        case rel => exact ⟨k + 1, _, by omega, by go_num, p1, p2, p3, p4⟩
        case measure => simp [intOf]; omega
      · obtain ⟨p1, p2, p3, p4⟩ := NX.out _ wr HO.out hb (.inr (.inl ⟨rfl, rfl⟩))
        clear NX HO hb
        rw [← F_ofInt] at *
        go_wp2
        go_roundw
        case rel => exact ⟨k + 1, _, by omega, by go_num, p1, p2, p3, p4⟩
        case measure => simp [intOf]; omega
      · obtain ⟨p1, p2, p3, p4⟩ := NX.out _ wr HO.out hb (.inr (.inr (.inl ⟨rfl, rfl⟩)))
        clear NX HO hb
        have hs := fun (w : World) => run_float_arith (P := Tryz.prog) w .add 38 .f64 _ _ _ (half_sum nn hnr)
        go_wp2
        go_roundw
        case rel => exact ⟨k + 1, _, by omega, by go_num, p1, p2, p3, p4⟩
        case measure => simp [intOf]; omega
      · obtain ⟨p1, p2, p3, p4⟩ := NX.out _ wr HO.out hb (.inr (.inr (.inr (.inl ⟨rfl, rfl⟩))))
        clear NX HO hb
        go_wp2
        go_roundw
        case rel => exact ⟨k + 1, _, by omega, by go_num, p1, p2, p3, p4⟩
        case measure => simp [intOf]; omega
      · obtain ⟨p1, p2, p3, p4⟩ := NX.out _ wr HO.out hb (.inr (.inr (.inr (.inr (.inl ⟨rfl, rfl⟩)))))
        clear NX HO hb
        go_wp2
        go_roundw
        case rel => exact ⟨k + 1, _, by omega, by go_num, p1, p2, p3, p4⟩
        case measure => simp [intOf]; omega
      · obtain ⟨p1, p2, p3, p4⟩ := NX.out _ wr HO.out hb (.inr (.inr (.inr (.inr (.inr (.inl ⟨rfl, rfl⟩))))))
        clear NX HO hb
        go_wp2
        go_roundw
        case rel => exact ⟨k + 1, _, by omega, by go_num, p1, p2, p3, p4⟩
        case measure => simp [intOf]; omega
      · have ho2 := HO.out.alloc (.cells #[] 20)
        have hc4 : (wr.alloc (.cells #[] 20)).cell? ⟨w.heap.size, k, none⟩ = some .nilIface := by
          rw [ho2.cellAt k (by omega)]
          have e := hkv.out
          rw [show ns.length - k = ns.length - (k + 1) + 1 by omega]
          subst e
          exact push_at _ _ _
        have hf4 := ho2.frozenAt k
        obtain ⟨p1, p2, p3, p4⟩ := NX.out (.iface 26 (.slice (some ⟨wr.heap.size, 0, none⟩) 0 0)) (wr.alloc (.cells #[] 20)) ho2 (hb.alloc hsz _) (.inr (.inr (.inr (.inr (.inr (.inr (.inl ⟨rfl, _, rfl⟩)))))))
        clear NX HO hb ho2
        go_wp2
        first
          | exact ⟨⟨k + 1, _, by omega, by go_num, p1, p2, p3, p4⟩, by simp [intOf]; omega⟩
          | (go_roundw
             case rel => exact ⟨k + 1, _, by omega, by go_num, p1, p2, p3, p4⟩
             case measure => simp [intOf]; omega)
      · have ho2 := HO.out.alloc (.map #[] 0)
        have hc4 : (wr.alloc (.map #[] 0)).cell? ⟨w.heap.size, k, none⟩ = some .nilIface := by
          rw [ho2.cellAt k (by omega)]
          have e := hkv.out
          rw [show ns.length - k = ns.length - (k + 1) + 1 by omega]
          subst e
          exact push_at _ _ _
        have hf4 := ho2.frozenAt k
        obtain ⟨p1, p2, p3, p4⟩ := NX.out (.iface 60 (.map (some wr.heap.size))) (wr.alloc (.map #[] 0)) ho2 (hb.alloc hsz _) (.inr (.inr (.inr (.inr (.inr (.inr (.inr ⟨rfl, _, rfl⟩)))))))
        clear NX HO hb ho2
        go_wp2
        exact ⟨⟨k + 1, _, by omega, by go_num, p1, p2, p3, p4⟩, by simp [intOf]; omega⟩
    · go_wp2
      go_ret
      have hk' : k = ns.length := by omega
      subst hk'
      have e := hkv.out
      rw [Nat.sub_self, List.replicate_zero, List.append_nil] at hown
      exact ⟨vals, hmix, e.symm, some ⟨w.heap.size, 0, none⟩, ns.length, ns.length, e, rfl, hown, hb, fun h => by cases h⟩
end Go.Proofs.YtepebjabacgeoaaGreatDoor
