/-
  Floats that stand for a number exactly: what is written is read again. Plain laws; no program.
-/
import Derived.Laws.FloatArith
namespace Go.Proofs.YtepebjabacgeoaaGreatDoor
open Go Ieee

theorem cut_none (neg : Bool) (n : Nat) : Toward.even.cut neg n 0 = n := by
  simp [Toward.cut, Nat.mod_one]

theorem log2_range {m : Nat} (h : 0 < m) : 2 ^ m.log2 ≤ m ∧ m < 2 ^ (m.log2 + 1) := ⟨Nat.log2_self_le (by omega), Nat.lt_log2_self⟩

set_option maxRecDepth 100000 in
/-- A number of at most 53 digits, well within the format's range, reads again as itself, its digits moved to the top. -/
theorem read_write (neg : Bool) (m : Nat) (p : Int) (hm : 0 < m) (hL : m.log2 ≤ 52) (h1 : -1074 ≤ p + m.log2 - 52) (h2 : p + m.log2 ≤ 1023) :
    double.read (double.write (.number neg m p)) = .number neg (m * 2 ^ (52 - m.log2)) (p + m.log2 - 52) := by
  obtain ⟨hlo, hhi⟩ := log2_range hm
  obtain ⟨L, hLL⟩ : ∃ L, L = m.log2 := ⟨_, rfl⟩
  rw [← hLL] at hL h1 h2 hlo hhi ⊢
  have hleast : double.leastPlace = -1074 := by decide
  have hfrac : ((double.fractionBits : Nat) : Int) = 52 := by decide
  have hbin : double.binade = 4503599627370496 := by decide
  have hinf : double.infRung = 9218868437227405312 := by decide
  have hsw : double.signWeight = 9223372036854775808 := by decide
  have hlast : max (p + (L : Int) - 52) (-1074) = p + L - 52 := by omega
  obtain ⟨q, hq⟩ : ∃ q : Nat, (q : Int) = p + L - 52 + 1074 := ⟨(p + L - 52 + 1074).toNat, by omega⟩
  have hq2 : q ≤ 2045 := by omega
  have e1 : (p - (p + (L : Int) - 52)).toNat = 52 - L := by omega
  have e2 : (p + (L : Int) - 52 - p).toNat = 0 := by omega
  have e3 : (p + (L : Int) - 52 - -1074).toNat = q := by omega
  have hk1 : 4503599627370496 ≤ m * 2 ^ (52 - L) := by
    have : 2 ^ L * 2 ^ (52 - L) = 4503599627370496 := by rw [← Nat.pow_add, show L + (52 - L) = 52 by omega]
    rw [← this]
    exact Nat.mul_le_mul_right _ hlo
  have hk2 : m * 2 ^ (52 - L) < 9007199254740992 := by
    have : 2 ^ (L + 1) * 2 ^ (52 - L) = 9007199254740992 := by rw [← Nat.pow_add, show L + 1 + (52 - L) = 53 by omega]
    rw [← this]
    exact Nat.mul_lt_mul_of_pos_right hhi (Nat.two_pow_pos _)
  obtain ⟨K, hK⟩ : ∃ K, K = m * 2 ^ (52 - L) := ⟨_, rfl⟩
  have hw : double.write (.number neg m p) = double.word neg (q * 4503599627370496 + K) := by
    show double.nearest neg m p = _
    unfold Format.nearest
    rw [if_neg (by omega), ← hLL]
    simp only [hleast, hfrac, hlast, hbin, hinf, e1, e2, e3, cut_none, Nat.shiftLeft_eq, ← hK]
    rw [Nat.min_eq_left (by omega)]
  rw [hw]
  rw [← hK] at hk1 hk2 ⊢
  have hr : (double.word neg (q * 4503599627370496 + K)) % 9223372036854775808 = q * 4503599627370496 + K := by
    unfold Format.word
    rw [hsw]
    split <;> omega
  have hn : ((double.word neg (q * 4503599627370496 + K)) / 9223372036854775808 % 2 == 1) = neg := by
    unfold Format.word
    rw [hsw]
    cases neg
    · simp only [Bool.false_eq_true, if_false]
      rw [beq_eq_false_iff_ne]
      omega
    · simp only [if_true]
      rw [beq_iff_eq]
      omega
  unfold Format.read
  simp only [hsw, hbin, hinf, hr, hn, hleast]
  rw [if_neg (by omega), if_pos (by omega)]
  have f1 : (q * 4503599627370496 + K) % 4503599627370496 = K - 4503599627370496 := by omega
  have f2 : (q * 4503599627370496 + K) / 4503599627370496 = q + 1 := by omega
  have g1 : 4503599627370496 + (K - 4503599627370496) = K := by omega
  have g2 : (-1074 : Int) + ((q + 1 - 1 : Nat) : Int) = p + L - 52 := by omega
  rw [f1, f2, g1, g2]
theorem read_zero (neg : Bool) : double.read (double.word neg 0) = .number neg 0 (-1074) := by cases neg <;> decide
theorem write_zero (neg : Bool) (p : Int) : double.write (.number neg 0 p) = double.word neg 0 := by
  show double.nearest neg 0 p = _
  unfold Format.nearest
  rw [if_pos rfl]

/-- What a datum is worth, with its places counted from 'base' on. -/
def units (base : Int) : Datum → Int
  | .number s m p => signed s m (p - base).toNat
  | _ => 0
/-- The datum is a number that has no digit below 'base' and is worth z units there. -/
def Worth (base : Int) (z : Int) (d : Datum) : Prop := ∃ s m p, d = .number s m p ∧ base ≤ p ∧ signed s m (p - base).toNat = z

theorem signed_eq (s : Bool) (m up : Nat) : signed s m up = (if s then -1 else 1) * ((m : Int) * 2 ^ up) := by
  unfold signed
  rw [Nat.shiftLeft_eq]
  push_cast
  split <;> simp
end Go.Proofs.YtepebjabacgeoaaGreatDoor
