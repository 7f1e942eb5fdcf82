/-
  sort's symMerge_func: the merge of two stretches of two or more elements each, and the whole contract.
-/
import Derived.Test.YtheochfpidahmaaGreatDoorSym
namespace Go.Proofs.YtheochfpidahmaaGreatDoor
open Go Go.Shelf Go.RowKit Go.Lib Go.Sort Go.Proofs
variable {P : Program} {ρ : Ren}

/-- The contract, as it stands for every stretch shorter than N. -/
def Merges (P : Program) (ρ : Ren) (enc : Nat → Value) (K : Nat → Int) (g : Nat) (lb : Array Value) (sf : Nat) (sb : Array Value) (w0 : World) (blk off : Nat) (d0 : Array Nat) (N : Nat) : Prop :=
  ∀ (d : Array Nat) (W : World) (a m b : Nat), d.size = d0.size → SW enc w0 blk off d W → a < m → m < b → b ≤ d.size → b - a < N → SortedIn (tlK K) a m d → SortedIn (tlK K) m b d → Ahead a m b d →
    Calls P (ρ.f 30) #[.agg #[.func (.func g) #[] lb, .func (.func sf) #[] sb], .int .i64 a, .int .i64 m, .int .i64 b] W
      (Leaves enc w0 blk off W fun d' => d'.size = d.size ∧ SortedIn (tlK K) a b d' ∧ PermAll a b d d')

set_option maxHeartbeats 8000000 in
set_option maxRecDepth 100000 in
theorem symMerge_gen (L : LaysGt.n30 P ρ) {enc : Nat → Value} {K : Nat → Int} {g : Nat} {lb : Array Value} {sf : Nat} {sb : Array Value} {w0 : World} {blk off : Nat} {d0 : Array Nat} (E : Env P enc w0 blk off d0 sf sb)
    (eg : ∀ args w, (callFunc g args).run P w = .ok (.enter g args) w) (hless : LessReads P g lb enc (ltK K) blk off d0.size w0)
    (d : Array Nat) (hd : d.size = d0.size) (W : World) (hS : SW enc w0 blk off d W) (N a m b : Nat) (IH : Merges P ρ enc K g lb sf sb w0 blk off d0 N) (hN0 : b - a < N + 1)
    (hb : b ≤ d.size) (ham : a + 1 < m) (hmb : m + 1 < b) (hs1 : SortedIn (tlK K) a m d) (hs2 : SortedIn (tlK K) m b d) (hA : Ahead a m b d) :
    Calls P (ρ.f 30) #[.agg #[.func (.func g) #[] lb, .func (.func sf) #[] sb], .int .i64 a, .int .i64 m, .int .i64 b] W
      (Leaves enc w0 blk off W fun d' => d'.size = d.size ∧ SortedIn (tlK K) a b d' ∧ PermAll a b d d') := by
  have mixed := L.mixed; have t0 := L.t0; have a0 := L.a0; have z0 := L.z0; have v0 := L.v0; have t3 := L.t3; have a3 := L.a3; have z3 := L.z3; have v3 := L.v3; have t4 := L.t4; have a4 := L.a4; have z4 := L.z4; have v4 := L.v4; have t26 := L.t26; have a26 := L.a26; have z26 := L.z26; have v26 := L.v26; have t38 := L.t38; have a38 := L.a38; have z38 := L.z38; have v38 := L.v38; have t42 := L.t42; have a42 := L.a42; have z42 := L.z42; have v42 := L.v42; have t47 := L.t47; have a47 := L.a47; have z47 := L.z47; have v47 := L.v47
  have u42 := run_underlying L.t42
  have e30 : ∀ args w, (callFunc (ρ.f 30) args).run P w = .ok (.enter (ρ.f 30) args) w := enters_of L.f30 (by kernel_rfl) rfl
  have e42 : ∀ args w, (callFunc (ρ.f 42) args).run P w = .ok (.enter (ρ.f 42) args) w := enters_of L.f42 (by kernel_rfl) rfl
  have LR : LaysGt.n42 P ρ := { L with }
  have hsz := E.small
  have hltW := hS.lt E.lt
  have h0 : ((m : Int) - (a : Int) == 1) = false := beq_eq_false_iff_ne.2 (by omega)
  have h1 : ((b : Int) - (m : Int) == 1) = false := beq_eq_false_iff_ne.2 (by omega)
  obtain ⟨mid, hmid⟩ : ∃ mid, Hid (mid = (a + b) / 2) := ⟨_, rfl⟩
  go_enter L.f30, BodyGt.n30_ntmps ρ
  go_upto_if 106 with fail
  go_cut [16, 17, 18, 19] from 23 to 176 (fun v16 v17 v18 v19 wx => v16 = .int .i64 mid ∧ v17 = .int .i64 ((mid : Int) + (m : Int)) ∧ ∃ lo hi : Nat, v18 = .int .i64 lo ∧ v19 = .int .i64 hi ∧ (mid < m ∧ lo + b = mid + m ∧ hi = mid ∨ m ≤ mid ∧ lo = a ∧ hi = m) ∧ Now enc w0 blk off W g lb sf sb d wx)
  case first =>
    have hm2 := hmid.out
    by_cases hc : mid < m
    · have hgt : decide ((m : Int) > ((a : Int) + (b : Int)) / 2) = true := decide_eq_true (by omega)
      go_wp2
      go_meet
      case rel => exact ⟨by congr 1; omega, by congr 1; omega, mid + m - b, mid, by congr 1; omega, by congr 1; omega, .inl ⟨hc, by omega, rfl⟩, Now.start hS _⟩
    · have hgt : decide ((m : Int) > ((a : Int) + (b : Int)) / 2) = false := decide_eq_false (by omega)
      go_wp2
      go_meet
      case rel => exact ⟨by congr 1; omega, by congr 1; omega, a, m, rfl, rfl, .inr ⟨by omega, rfl, rfl⟩, Now.start hS _⟩
  case rest =>
    obtain ⟨rfl, rfl, lo, hi, rfl, rfl, hcase, hNw⟩ := hcut
    have hm2 := hmid.out
    have hlohi : a ≤ lo ∧ lo ≤ hi ∧ hi ≤ mid ∧ hi ≤ m ∧ mid ≤ b ∧ a ≤ mid ∧ mid + m ≤ b + lo ∧ a < mid ∧ mid < b ∧ (lo = a ∨ lo + b = mid + m) ∧ (hi = mid ∨ hi = m) := by omega
    clear hcase hm2
    go_wp2
    go_loopw [18, 19] (fun vs vr wr => ∃ (s r : Nat), vs = .int .i64 s ∧ vr = .int .i64 r ∧ lo ≤ s ∧ s ≤ r ∧ r ≤ hi ∧ Hid (s = lo ∨ ltK K d[mid + m - s]! d[s - 1]! = false) ∧ Hid (r = hi ∨ ltK K d[mid + m - 1 - r]! d[r]! = true) ∧ Now enc w0 blk off W g lb sf sb d wr)
      (fun vs vr _ => (intOf vr).toNat - (intOf vs).toNat)
    case atStart => exact ⟨lo, hi, rfl, rfl, by omega, by omega, by omega, .inl rfl, .inl rfl, hNw⟩
    case round =>
      clear hNw
      obtain ⟨s, r, rfl, rfl, hls, hsr, hrh, HL, HR, hN⟩ := hrel
      by_cases hlt : s < r
      · have hl := hN.sw.less hless hd (mid + m - 1 - (s + r) / 2) ((s + r) / 2) (by omega) (by omega)
        rw [show ((mid + m - 1 - (s + r) / 2 : Nat) : Int) = (mid : Int) + (m : Int) - 1 - ((s : Int) + (r : Int)) / 2 by omega, show (((s + r) / 2 : Nat) : Int) = ((s : Int) + (r : Int)) / 2 by omega] at hl
        have hc0 := hN.c0
        cases hv : ltK K d[mid + m - 1 - (s + r) / 2]! d[(s + r) / 2]! with
        | false =>
          rw [hv] at hl
          have HL2 : Hid ((s + r) / 2 + 1 = lo ∨ ltK K d[mid + m - ((s + r) / 2 + 1)]! d[(s + r) / 2 + 1 - 1]! = false) := .inr (by rw [show mid + m - ((s + r) / 2 + 1) = mid + m - 1 - (s + r) / 2 by omega]; exact hv)
          clear HL hv
          go_wp2_with (go_at_fn g; refine hl.mono ?_; rintro e w' ⟨rfl, q, rfl⟩)
          go_roundw
          case rel => exact ⟨(s + r) / 2 + 1, r, by congr 1, rfl, by omega, by omega, hrh, HL2, HR, hN.drew q⟩
          case measure => simp [intOf]; omega
        | true =>
          rw [hv] at hl
          have HR2 : Hid ((s + r) / 2 = hi ∨ ltK K d[mid + m - 1 - (s + r) / 2]! d[(s + r) / 2]! = true) := .inr hv
          clear HR hv
          go_wp2_with (go_at_fn g; refine hl.mono ?_; rintro e w' ⟨rfl, q, rfl⟩)
          go_roundw
          case rel => exact ⟨s, (s + r) / 2, rfl, by congr 1, hls, by omega, by omega, HL, HR2, hN.drew q⟩
          case measure => simp [intOf]; omega
      · obtain rfl : s = r := by omega
        obtain ⟨en, hen⟩ : ∃ en : Nat, s + en = mid + m := ⟨mid + m - s, by omega⟩
        have HC : Hid (∀ d', (∀ t, d'[t]! = rotAt d s m en t) → Cut K a m b mid s en d d') := fun d' h' =>
          cut_of hs1 hs2 hA (by omega) (by omega) (by omega) hen (by omega) hlohi.2.2.2.2.2.2.2.2.2.1 hlohi.2.2.2.2.2.2.2.2.2.2
            (HL.out.imp id fun h => by rw [show en = mid + m - s by omega]; exact h) (HR.out.imp id fun h => by rw [show en - 1 = mid + m - 1 - s by omega]; exact h) h'
        clear HL HR hs1 hs2 hA
        go_upto_region 40 with fail
        go_cut [22, 145] from 23 to 176 (fun v22 c wx => v22 = .int .i64 en ∧ c = .bool (decide (s < m ∧ m < en)) ∧ wx = wr)
        case first =>
          have hv22 : (mid : Int) + (m : Int) - (s : Int) = (en : Int) := by omega
          by_cases hx : s < m
          · have hd1 : decide ((s : Int) < (m : Int)) = true := decide_eq_true (by omega)
            go_wp2
            go_meet
            case rel => exact ⟨by congr 1, by congr 1; exact decide_eq_decide.2 (by omega), rfl⟩
          · have hd1 : decide ((s : Int) < (m : Int)) = false := decide_eq_false (by omega)
            go_wp2
            go_meet
            case rel => exact ⟨by congr 1, by congr 1; exact (decide_eq_false (by omega)).symm, rfl⟩
        case rest =>
          obtain ⟨rfl, rfl, rfl⟩ := hcut
          go_upto_if 145 with fail
          go_cut [] from 23 to 176 (fun wx => ∃ d1 : Array Nat, d1.size = d.size ∧ Hid (∀ t, d1[t]! = rotAt d s m en t) ∧ Hid (PermAll a b d d1) ∧ Now enc w0 blk off W g lb sf sb d1 wx)
          case first =>
            by_cases hx : s < m ∧ m < en
            · rw [decide_eq_true hx]
              have hc0 := hN.c0
              have hc1 := hN.c1
              have HCALL : Hid (Calls P (ρ.f 42) _ wc _) := rotate_w LR (g := g) (lb := lb) E d hd wc hN.sw s m en hx.1 hx.2 (by omega)
              go_wp2_with (go_at_fn (ρ.f 42); refine HCALL.out.mono ?_; rintro e w2 ⟨rfl, d2, ⟨q1, q2, q3⟩, hS2, hK2⟩)
              go_meet
              case rel => exact ⟨d2, q1, q2, q3.mono (by omega) (by omega), hN.next hltW hS2 hK2⟩
            · rw [decide_eq_false hx]
              go_wp2_with fail
              go_meet
              case rel =>
                refine ⟨d, rfl, fun t => ?_, PermAll.refl a b d, hN⟩
                rcases (show s = m ∨ en = m by omega) with e1 | e1
                · rw [e1]; exact (rot_none1 d m en t).symm
                · rw [e1]; exact (rot_none2 d s m t).symm
          case rest =>
            obtain ⟨d1, hz1, HA1, HP1, hN1⟩ := hcut
            have HCut : Hid (Cut K a m b mid s en d d1) := HC.out d1 HA1.out
            clear HA1 HC hN
            go_upto_region 42 with fail
            go_cut [158] from 23 to 176 (fun c wx => c = .bool (decide (a < s ∧ s < mid)) ∧ wx = wc)
            case first =>
              by_cases hx : a < s
              · have hd1 : decide ((a : Int) < (s : Int)) = true := decide_eq_true (by omega)
                go_wp2
                go_meet
                case rel => exact ⟨by congr 1; exact decide_eq_decide.2 (by omega), rfl⟩
              · have hd1 : decide ((a : Int) < (s : Int)) = false := decide_eq_false (by omega)
                go_wp2
                go_meet
                case rel => exact ⟨by congr 1; exact (decide_eq_false (by omega)).symm, rfl⟩
            case rest =>
              obtain ⟨rfl, rfl⟩ := hcut
              go_upto_if 158 with fail
              go_cut [] from 23 to 176 (fun wx => ∃ d2 : Array Nat, d2.size = d.size ∧ Hid (SortedIn (tlK K) a mid d2) ∧ Hid (PermAll a mid d1 d2) ∧ Now enc w0 blk off W g lb sf sb d2 wx)
              case first =>
                by_cases hx : a < s ∧ s < mid
                · rw [decide_eq_true hx]
                  have hc0 := hN1.c0
                  have hc1 := hN1.c1
                  have HCALL : Hid (Calls P (ρ.f 30) _ wc _) := IH d1 wc a s mid (hz1.trans hd) hN1.sw hx.1 hx.2 (by omega) (by omega) HCut.out.s1 HCut.out.s2 HCut.out.o1
                  go_wp2_with (go_at_fn (ρ.f 30); refine HCALL.out.mono ?_; rintro e w2 ⟨rfl, d2, ⟨q1, q2, q3⟩, hS2, hK2⟩)
                  go_meet
                  case rel => exact ⟨d2, q1.trans hz1, q2, q3, hN1.next hltW hS2 hK2⟩
                · rw [decide_eq_false hx]
                  go_wp2_with fail
                  go_meet
                  case rel =>
                    refine ⟨d1, hz1, ?_, PermAll.refl a mid d1, hN1⟩
                    rcases (show s = a ∨ s = mid by omega) with e1 | e1
                    · have := HCut.out.s2; rw [e1] at this; exact this
                    · have := HCut.out.s1; rw [e1] at this; exact this
              case rest =>
                obtain ⟨d2, hz2, HS2, HP2, hN2⟩ := hcut
                have hp12 : PermIn a mid d1 d2 := HP2.out a mid (Nat.le_refl _) (Nat.le_refl _) (by omega)
                have hfr : ∀ t, mid ≤ t → t < b → d2[t]! = d1[t]! := fun t h _ => hp12.2.1 t (.inr h)
                have fin : ∀ (d3 : Array Nat) (w3 : World), d3.size = d.size → SortedIn (tlK K) mid b d3 → PermAll mid b d2 d3 → SW enc w0 blk off d3 w3 → Kept blk wc w3 →
                    Leaves enc w0 blk off W (fun d' => d'.size = d.size ∧ SortedIn (tlK K) a b d' ∧ PermAll a b d d') (.returned (.tuple #[])) w3 := fun d3 w3 k1 k2 k3 k4 k5 => by
                  have hp23 : PermIn mid b d2 d3 := k3 mid b (Nat.le_refl _) (Nat.le_refl _) (by omega)
                  refine ⟨rfl, d3, ⟨k1, sorted_join (sorted_frame HS2.out fun t _ h => hp23.2.1 t (.inl h)) k2 (cross_perm (d := d1) (by omega) (by omega) hp12 hp23 HCut.out.x), ?_⟩, k4, hN2.kept.trans k5⟩
                  exact HP1.out.trans hz1 ((HP2.out.mono (Nat.le_refl _) (by omega)).trans (hz2.trans hz1.symm) (k3.mono (by omega) (Nat.le_refl _)))
                have FIN : Hid _ := fin
                have hs34 : SortedIn (tlK K) mid en d2 := sorted_frame HCut.out.s3 fun t h1 h2 => hfr t h1 (by omega)
                have hs4 : SortedIn (tlK K) en b d2 := sorted_frame HCut.out.s4 fun t h1 h2 => hfr t (by omega) h2
                have ho2 : Ahead mid en b d2 := ahead_frame HCut.out.o2 hfr
                clear fin hfr hp12
                by_cases hx : mid < en ∧ en < b
                · have HCALL : Hid (Calls P (ρ.f 30) _ wc _) := IH d2 wc mid en b (hz2.trans hd) hN2.sw hx.1 hx.2 (by omega) (by omega) hs34 hs4 ho2
                  have hc0 := hN2.c0
                  have hc1 := hN2.c1
                  have hd1 : decide ((mid : Int) < (en : Int)) = true := decide_eq_true (by omega)
                  have hd2 : decide ((en : Int) < (b : Int)) = true := decide_eq_true (by omega)
                  clear hs34 hs4 ho2
                  go_wp2_with (go_at_fn (ρ.f 30); refine HCALL.out.mono ?_; rintro e w2 ⟨rfl, d3, ⟨q1, q2, q3⟩, hS3, hK3⟩)
                  go_end0
                  exact FIN.out d3 w2 (q1.trans hz2) q2 q3 hS3 hK3
                · have hS3 : SortedIn (tlK K) mid b d2 := by
                    rcases (show en = mid ∨ en = b by omega) with e1 | e1
                    · rw [e1] at hs4; exact hs4
                    · rw [e1] at hs34; exact hs34
                  clear hs34 hs4 ho2
                  by_cases hy : mid < en
                  · have hd1 : decide ((mid : Int) < (en : Int)) = true := decide_eq_true (by omega)
                    have hd2 : decide ((en : Int) < (b : Int)) = false := decide_eq_false (by omega)
                    go_wp2
                    go_end0
                    exact FIN.out d2 wc hz2 hS3 (PermAll.refl mid b d2) hN2.sw (Kept.refl blk wc)
                  · have hd1 : decide ((mid : Int) < (en : Int)) = false := decide_eq_false (by omega)
                    go_wp2
                    go_end0
                    exact FIN.out d2 wc hz2 hS3 (PermAll.refl mid b d2) hN2.sw (Kept.refl blk wc)

theorem symMerge_w (L : LaysGt.n30 P ρ) {enc : Nat → Value} {K : Nat → Int} {g : Nat} {lb : Array Value} {sf : Nat} {sb : Array Value} {w0 : World} {blk off : Nat} {d0 : Array Nat} (E : Env P enc w0 blk off d0 sf sb)
    (eg : ∀ args w, (callFunc g args).run P w = .ok (.enter g args) w) (hless : LessReads P g lb enc (ltK K) blk off d0.size w0) : ∀ N, Merges P ρ enc K g lb sf sb w0 blk off d0 N
  | 0 => fun _ _ _ _ _ _ _ _ _ _ h _ _ _ => by omega
  | N + 1 => fun d W a m b hd hS h1 h2 h3 h4 s1 s2 o => by
    by_cases c1 : m = a + 1
    · subst c1
      exact symMerge_left L E eg hless d hd W hS a b h3 (by omega) s2 o
    · by_cases c2 : b = m + 1
      · subst c2
        exact symMerge_right L E eg hless d hd W hS a m h3 (by omega) s1 o
      · exact symMerge_gen L E eg hless d hd W hS N a m b (symMerge_w L E eg hless N) h4 h3 (by omega) (by omega) s1 s2 o
end Go.Proofs.YtheochfpidahmaaGreatDoor
