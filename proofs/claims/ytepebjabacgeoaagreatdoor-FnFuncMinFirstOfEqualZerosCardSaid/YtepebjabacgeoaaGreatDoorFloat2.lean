/-
  The float of a number z * 2^b (of at most 53 digits): sums and order are exact. Plain laws; no program.
-/
import Derived.Test.YtepebjabacgeoaaGreatDoorFloat
namespace Go.Proofs.YtepebjabacgeoaaGreatDoor
open Go Ieee

theorem log2_mul_pow {m : Nat} (hm : 0 < m) (k : Nat) : (m * 2 ^ k).log2 = m.log2 + k := by
  obtain ⟨h1, h2⟩ := log2_range hm
  have hne : m * 2 ^ k ≠ 0 := by
    have := Nat.two_pow_pos k
    have := Nat.mul_pos hm this
    omega
  rw [Nat.log2_eq_iff hne]
  constructor
  · rw [Nat.pow_add]; exact Nat.mul_le_mul_right _ h1
  · rw [show m.log2 + k + 1 = (m.log2 + 1) + k by omega, Nat.pow_add]; exact Nat.mul_lt_mul_of_pos_right h2 (Nat.two_pow_pos _)
theorem log2_lt53 {m : Nat} (h : m < 9007199254740992) : m.log2 ≤ 52 := by
  rcases Nat.eq_zero_or_pos m with rfl | hm
  · decide
  · have := (Nat.log2_lt (n := m) (k := 53) (by omega)).2 (by simpa using h)
    omega

set_option maxRecDepth 100000 in
/-- A number's float does not ask how its digits are cut. -/
theorem nearest_scale (neg : Bool) (m k : Nat) (p : Int) (hm : 0 < m) (hL : m.log2 ≤ 52) (hp : -1074 ≤ p + k) : double.nearest neg (m * 2 ^ k) p = double.nearest neg m (p + k) := by
  have hlog := log2_mul_pow hm k
  have hpos : 0 < m * 2 ^ k := Nat.mul_pos hm (Nat.two_pow_pos k)
  have hleast : double.leastPlace = -1074 := by decide
  have hfrac : ((double.fractionBits : Nat) : Int) = 52 := by decide
  obtain ⟨L, hLL⟩ : ∃ L, L = m.log2 := ⟨_, rfl⟩
  obtain ⟨last, hl⟩ : ∃ last : Int, last = max (p + k + (L : Int) - 52) (-1074) := ⟨_, rfl⟩
  have hl2 : max (p + ((L + k : Nat) : Int) - 52) (-1074) = last := by rw [hl]; congr 1; omega
  have hlp : last ≤ p + k := by omega
  have key : Toward.even.cut neg ((m * 2 ^ k) <<< (p - last).toNat) (last - p).toNat = Toward.even.cut neg (m <<< (p + k - last).toNat) (last - (p + k)).toNat := by
    rw [show (last - (p + k)).toNat = 0 by omega, cut_none]
    rcases (show last ≤ p ∨ p < last by omega) with h | h
    · rw [show (last - p).toNat = 0 by omega, cut_none, Nat.shiftLeft_eq, Nat.shiftLeft_eq, Nat.mul_assoc, ← Nat.pow_add, show k + (p - last).toNat = (p + k - last).toNat by omega]
    · rw [show (p - last).toNat = 0 by omega, Nat.shiftLeft_zero]
      obtain ⟨d, hd⟩ : ∃ d : Nat, (d : Int) = last - p := ⟨(last - p).toNat, by omega⟩
      have hdk : d ≤ k := by omega
      rw [show (last - p).toNat = d by omega, show (p + k - last).toNat = k - d by omega]
      unfold Toward.cut
      rw [hlog, Nat.min_eq_left (by omega), Nat.shiftLeft_eq, Nat.one_mul]
      have e : m * 2 ^ k = m * 2 ^ (k - d) * 2 ^ d := by rw [Nat.mul_assoc, ← Nat.pow_add, show k - d + d = k by omega]
      have e1 : m * 2 ^ k / 2 ^ d = m * 2 ^ (k - d) := by rw [e, Nat.mul_div_cancel _ (Nat.two_pow_pos d)]
      have e2 : m * 2 ^ k % 2 ^ d = 0 := by rw [e, Nat.mul_mod_left]
      have hp2 := Nat.two_pow_pos d
      simp only [e1, e2, Nat.mul_zero, Nat.shiftLeft_eq]
      have z1 : decide (2 ^ d < 0) = false := by simp
      have z2 : (2 ^ d == 0) = false := by simp
      rw [z1, z2]
      simp
  unfold Format.nearest
  rw [if_neg (by omega), if_neg (by omega), hlog, ← hLL]
  simp only [hleast, hfrac, hl2, ← hl, key]

theorem signed_scale (s : Bool) (m a c : Nat) : signed s m (a + c) = signed s m a * 2 ^ c := by
  rw [signed_eq, signed_eq, Int.pow_add, Int.mul_assoc, Int.mul_assoc]
theorem signed_zero (s : Bool) (a : Nat) : signed s 0 a = 0 := by rw [signed_eq]; simp
theorem signed_pos (m a : Nat) : signed false m a = ((m * 2 ^ a : Nat) : Int) := by rw [signed_eq]; push_cast; simp
theorem signed_neg (m a : Nat) : signed true m a = -((m * 2 ^ a : Nat) : Int) := by rw [signed_eq]; push_cast; simp

/-- The float of z * 2^b. -/
def F (z b : Int) : Nat := double.write (.number (decide (z < 0)) z.natAbs b)
theorem F_ofInt (n : Int) : floatOfInt .f64 n = F n 0 := rfl

/-- It reads as that. -/
theorem F_read (z b : Int) (hz : z.natAbs < 9007199254740992) (h1 : -1022 ≤ b) (h2 : b ≤ 900) :
    ∃ m p, double.read (F z b) = .number (decide (z < 0)) m p ∧ -1074 ≤ p ∧ signed (decide (z < 0)) m (p + 1074).toNat = z * 2 ^ (b + 1074).toNat := by
  rcases Nat.eq_zero_or_pos z.natAbs with h | h
  · obtain rfl : z = 0 := by omega
    refine ⟨0, -1074, ?_, by omega, by rw [signed_zero]; simp⟩
    unfold F
    rw [show (0 : Int).natAbs = 0 from rfl, write_zero, read_zero]
  · have hL := log2_lt53 hz
    refine ⟨_, _, read_write _ _ b h hL (by omega) (by omega), by omega, ?_⟩
    obtain ⟨L, hLL⟩ : ∃ L, L = z.natAbs.log2 := ⟨_, rfl⟩
    rw [← hLL] at hL ⊢
    have e : (z.natAbs * 2 ^ (52 - L)) * 2 ^ (b + (L : Int) - 52 + 1074).toNat = z.natAbs * 2 ^ (b + 1074).toNat := by
      rw [Nat.mul_assoc, ← Nat.pow_add, show 52 - L + (b + (L : Int) - 52 + 1074).toNat = (b + 1074).toNat by omega]
    by_cases hn : z < 0
    · rw [decide_eq_true hn, signed_neg, e]
      rw [show z = -(z.natAbs : Int) by omega]
      push_cast
      rw [Int.neg_mul, Int.natAbs_neg, Int.natAbs_natCast]
    · rw [decide_eq_false hn, signed_pos, e]
      rw [show z = (z.natAbs : Int) by omega]
      push_cast
      rw [Int.natAbs_natCast]

theorem mul_pow_cancel {a b c d : Nat} (h : a * 2 ^ (c + d) = b * 2 ^ d) : a * 2 ^ c = b := by
  rw [Nat.pow_add, ← Nat.mul_assoc] at h
  exact Nat.eq_of_mul_eq_mul_right (Nat.two_pow_pos d) h

/-- A number worth z * 2^b is written as its float. -/
theorem F_write (s : Bool) (m : Nat) (p z b : Int) (hp : -1074 ≤ p) (hs : signed s m (p + 1074).toNat = z * 2 ^ (b + 1074).toNat) (hz0 : z ≠ 0) (hz : z.natAbs < 9007199254740992) (h1 : -1022 ≤ b) :
    double.write (.number s m p) = F z b := by
  have hpow1 := Nat.two_pow_pos (p + 1074).toNat
  have hpow2 := Nat.two_pow_pos (b + 1074).toNat
  have habs : m * 2 ^ (p + 1074).toNat = z.natAbs * 2 ^ (b + 1074).toNat := by
    have := congrArg Int.natAbs hs
    rw [Int.natAbs_mul, Int.natAbs_pow] at this
    cases s
    · rw [signed_pos, Int.natAbs_natCast] at this
      exact this
    · rw [signed_neg, Int.natAbs_neg, Int.natAbs_natCast] at this
      exact this
  have hzp : 0 < z.natAbs := by omega
  have hm : 0 < m := by
    rcases Nat.eq_zero_or_pos m with h | h
    · subst h
      have := Nat.mul_pos hzp hpow2
      omega
    · exact h
  have hsign : s = decide (z < 0) := by
    have hq : (0 : Int) < 2 ^ (b + 1074).toNat := Int.pow_pos (by omega)
    cases s
    · rw [signed_pos] at hs
      symm
      rw [decide_eq_false_iff_not]
      intro hn
      have := Int.mul_neg_of_neg_of_pos hn hq
      omega
    · rw [signed_neg] at hs
      symm
      rw [decide_eq_true_eq]
      rcases (show z < 0 ∨ 0 < z by omega) with h | h
      · exact h
      · have h3 := Int.mul_pos h hq
        have h4 : 0 < m * 2 ^ (p + 1074).toNat := Nat.mul_pos hm hpow1
        omega
  have hL := log2_lt53 hz
  show double.nearest s m p = double.nearest (decide (z < 0)) z.natAbs b
  rw [← hsign]
  rcases (show p ≤ b ∨ b < p by omega) with h | h
  · have e := mul_pow_cancel (a := z.natAbs) (b := m) (c := (b - p).toNat) (d := (p + 1074).toNat) (by rw [show (b - p).toNat + (p + 1074).toNat = (b + 1074).toNat by omega]; exact habs.symm)
    rw [← e, nearest_scale s z.natAbs (b - p).toNat p hzp hL (by omega), show p + ((b - p).toNat : Int) = b by omega]
  · have e := mul_pow_cancel (a := m) (b := z.natAbs) (c := (p - b).toNat) (d := (b + 1074).toNat) (by rw [show (p - b).toNat + (b + 1074).toNat = (p + 1074).toNat by omega]; exact habs)
    have hml : m < 9007199254740992 := by
      have := Nat.two_pow_pos (p - b).toNat
      have : m ≤ m * 2 ^ (p - b).toNat := Nat.le_mul_of_pos_right _ this
      omega
    rw [← e, nearest_scale s m (p - b).toNat b hm (log2_lt53 hml) (by omega), show b + ((p - b).toNat : Int) = p by omega]

/-- The same number, its digits cut elsewhere. -/
theorem F_shift (z b : Int) (k : Nat) (hz : z.natAbs * 2 ^ k < 9007199254740992) (h1 : -1022 ≤ b) : F (z * 2 ^ k) b = F z (b + k) := by
  rcases (show z = 0 ∨ z ≠ 0 by omega) with h | h
  · subst h
    unfold F
    rw [Int.zero_mul]
    show double.write (.number _ 0 b) = double.write (.number _ 0 _)
    rw [write_zero, write_zero]
  · have hk := Nat.two_pow_pos k
    have hz1 : z.natAbs < 9007199254740992 := by
      have : z.natAbs ≤ z.natAbs * 2 ^ k := Nat.le_mul_of_pos_right _ hk
      omega
    have hq : (0 : Int) < 2 ^ k := Int.pow_pos (by omega)
    have hneg : decide (z * 2 ^ k < 0) = decide (z < 0) := by
      rcases (show z < 0 ∨ 0 < z by omega) with hn | hn
      · rw [decide_eq_true hn, decide_eq_true (Int.mul_neg_of_neg_of_pos hn hq)]
      · have := Int.mul_pos hn hq
        rw [decide_eq_false (by omega), decide_eq_false (by omega)]
    unfold F
    rw [hneg, Int.natAbs_mul, Int.natAbs_pow]
    exact nearest_scale _ z.natAbs k b (by omega) (log2_lt53 hz1) (by omega)

/-- SUMS ARE EXACT. -/
theorem F_add (x y b : Int) (hx : x.natAbs < 9007199254740992) (hy : y.natAbs < 9007199254740992) (hxy : (x + y).natAbs < 9007199254740992) (h1 : -1022 ≤ b) (h2 : b ≤ 900) :
    floatBits .add .f64 (F x b) (F y b) = some (F (x + y) b) := by
  obtain ⟨m, i, r1, hi, w1⟩ := F_read x b hx h1 h2
  obtain ⟨n, j, r2, hj, w2⟩ := F_read y b hy h1 h2
  show (Datum.sum (double.read (F x b)) (double.read (F y b))).map double.write = _
  rw [r1, r2]
  simp only [Datum.sum, Option.map_some, Option.some.injEq]
  obtain ⟨base, hb⟩ : ∃ base, base = min i j := ⟨_, rfl⟩
  rw [← hb]
  obtain ⟨total, ht⟩ : ∃ total, total = signed (decide (x < 0)) m (i - base).toNat + signed (decide (y < 0)) n (j - base).toNat := ⟨_, rfl⟩
  rw [← ht]
  have hw : total * 2 ^ (base + 1074).toNat = (x + y) * 2 ^ (b + 1074).toNat := by
    rw [ht, Int.add_mul, ← signed_scale, ← signed_scale, show (i - base).toNat + (base + 1074).toNat = (i + 1074).toNat by omega, show (j - base).toNat + (base + 1074).toNat = (j + 1074).toNat by omega, w1, w2, Int.add_mul]
  have hq : (0 : Int) < 2 ^ (b + 1074).toNat := Int.pow_pos (by omega)
  have hq2 : (0 : Int) < 2 ^ (base + 1074).toNat := Int.pow_pos (by omega)
  by_cases h0 : x + y = 0
  · rw [h0, Int.zero_mul] at hw
    have ht0 : total = 0 := (Int.mul_eq_zero.1 hw).resolve_right (by omega)
    rw [if_pos ht0, ht0, h0]
    unfold F
    show double.write (.number _ 0 base) = double.write (.number _ 0 b)
    rw [write_zero, write_zero]
    congr 1
    rcases (show x < 0 ∨ ¬ x < 0 by omega) with h | h
    · rw [decide_eq_false (show ¬ y < 0 by omega), decide_eq_false (show ¬ (0 : Int) < 0 by omega), Bool.and_false]
    · rw [decide_eq_false h, Bool.false_and, decide_eq_false (show ¬ (0 : Int) < 0 by omega)]
  · have ht0 : total ≠ 0 := by
      intro h
      rw [h, Int.zero_mul] at hw
      exact ((Int.mul_eq_zero.1 hw.symm).resolve_right (by omega)) |> h0
    rw [if_neg ht0]
    refine F_write _ _ base (x + y) b (by omega) ?_ h0 hxy h1
    rw [← hw]
    by_cases hn : total < 0
    · rw [decide_eq_true hn, signed_neg]
      push_cast
      rw [show (total.natAbs : Int) = -total by omega, Int.neg_mul, Int.neg_neg]
    · rw [decide_eq_false hn, signed_pos]
      push_cast
      rw [show (total.natAbs : Int) = total by omega]

theorem compare_scale (x y c : Int) (hc : 0 < c) : compare (x * c) (y * c) = compare x y := by
  rcases Int.lt_trichotomy x y with h | h | h
  · rw [Int.compare_eq_lt.2 h, Int.compare_eq_lt.2 (Int.mul_lt_mul_of_pos_right h hc)]
  · subst h; rw [Int.compare_eq_eq.2 rfl, Int.compare_eq_eq.2 rfl]
  · rw [Int.compare_eq_gt.2 h, Int.compare_eq_gt.2 (Int.mul_lt_mul_of_pos_right h hc)]

/-- THE ORDER IS THE NUMBERS' ORDER. -/
theorem F_order (x y b : Int) (hx : x.natAbs < 9007199254740992) (hy : y.natAbs < 9007199254740992) (h1 : -1022 ≤ b) (h2 : b ≤ 900) :
    double.order (F x b) (F y b) = some (compare x y) := by
  obtain ⟨m, i, r1, hi, w1⟩ := F_read x b hx h1 h2
  obtain ⟨n, j, r2, hj, w2⟩ := F_read y b hy h1 h2
  show Datum.order (double.read (F x b)) (double.read (F y b)) = _
  rw [r1, r2]
  simp only [Datum.order, Option.some.injEq]
  obtain ⟨base, hb⟩ : ∃ base, base = min i j := ⟨_, rfl⟩
  rw [← hb]
  have hq : (0 : Int) < 2 ^ (b + 1074).toNat := Int.pow_pos (by omega)
  have hq2 : (0 : Int) < 2 ^ (base + 1074).toNat := Int.pow_pos (by omega)
  rw [← compare_scale _ _ _ hq2, ← signed_scale, ← signed_scale, show (i - base).toNat + (base + 1074).toNat = (i + 1074).toNat by omega, show (j - base).toNat + (base + 1074).toNat = (j + 1074).toNat by omega, w1, w2, compare_scale _ _ _ hq]
end Go.Proofs.YtepebjabacgeoaaGreatDoor
