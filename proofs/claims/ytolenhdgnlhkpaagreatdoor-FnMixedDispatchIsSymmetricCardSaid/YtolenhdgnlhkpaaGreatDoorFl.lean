/-
  Floats of any kind: a sum commutes, an order is mirrored, a sum that is valid is no NaN, 1/0 is an infinity. Plain laws; no program.
-/
import Derived.Laws.FloatArith
import Derived.Laws.NewFold
namespace Go.Proofs.YtolenhdgnlhkpaaGreatDoor
open Go Ieee

theorem sum_comm (d e : Datum) : d.sum e = e.sum d := by
  cases d with
  | nan s t => cases e <;> rfl
  | infinity s =>
    cases e with
    | nan t u => rfl
    | infinity t => cases s <;> cases t <;> rfl
    | number t n j => rfl
  | number s m i =>
    cases e with
    | nan t u => rfl
    | infinity t => rfl
    | number t n j =>
      simp only [Datum.sum]
      rw [Int.min_comm j i, Int.add_comm (signed t n (j - min i j).toNat), Bool.and_comm t s]
theorem add_comm_bits (x y : Nat) : double.add x y = double.add y x := by
  unfold Format.add
  rw [sum_comm]

theorem cmp_swap_int (a b : Int) : compare b a = (compare a b).swap := by
  rcases Int.lt_trichotomy a b with h | h | h
  · rw [Int.compare_eq_lt.2 h, Int.compare_eq_gt.2 h]; rfl
  · subst h; rw [Int.compare_eq_eq.2 rfl]; rfl
  · rw [Int.compare_eq_gt.2 h, Int.compare_eq_lt.2 h]; rfl
theorem order_swap (d e : Datum) : e.order d = (d.order e).map Ordering.swap := by
  cases d with
  | nan s t => cases e <;> rfl
  | infinity s =>
    cases e with
    | nan t u => rfl
    | infinity t => cases s <;> cases t <;> rfl
    | number t n j => cases s <;> rfl
  | number s m i =>
    cases e with
    | nan t u => rfl
    | infinity t => cases t <;> rfl
    | number t n j =>
      simp only [Datum.order, Option.map_some]
      rw [Int.min_comm j i, cmp_swap_int]
theorem order_self {d : Datum} (h : d.isNaN = false) : d.order d = some .eq := by
  cases d with
  | nan s t => cases h
  | infinity s => cases s <;> rfl
  | number s m i =>
    simp only [Datum.order]
    rw [Int.compare_eq_eq.2 rfl]
theorem order_some {d e : Datum} (h : d.isNaN = false) (g : e.isNaN = false) : ∃ o, d.order e = some o := by
  cases d with
  | nan s t => cases h
  | infinity s =>
    cases e with
    | nan t u => cases g
    | infinity t => exact ⟨_, rfl⟩
    | number t n j => exact ⟨_, rfl⟩
  | number s m i =>
    cases e with
    | nan t u => cases g
    | infinity t => exact ⟨_, rfl⟩
    | number t n j => exact ⟨_, rfl⟩
theorem order_nan {d e : Datum} (h : d.isNaN = true) : d.order e = none := by
  cases d with
  | nan s t => cases e <;> rfl
  | infinity s => cases h
  | number s m i => cases h

/-- The bits of a NaN, of none. -/
def NaNs (x : Nat) : Prop := (double.read x).isNaN = true
def Sure (x : Nat) : Prop := (double.read x).isNaN = false

theorem read_word (s : Bool) (r : Nat) (h : r ≤ double.infRung) : (double.read (double.word s r)).isNaN = false := by
  have e1 : double.signWeight = 9223372036854775808 := by decide
  have e2 : double.infRung = 9218868437227405312 := by decide
  have e3 : double.word s r % double.signWeight = r := by
    unfold Format.word
    rw [e1]
    cases s
    · simp; omega
    · simp; omega
  unfold Format.read
  simp only [e3]
  split
  · rfl
  · split
    · rfl
    · split
      · rfl
      · omega
theorem read_write {d : Datum} (h : d.isNaN = false) : Sure (double.write d) := by
  cases d with
  | nan s t => cases h
  | infinity s => exact read_word s _ (Nat.le_refl _)
  | number s m i =>
    show (double.read (double.nearest s m i)).isNaN = false
    unfold Format.nearest
    split
    · exact read_word s 0 (Nat.zero_le _)
    · exact read_word s _ (Nat.min_le_right _ _)
theorem sum_sure {d e r : Datum} (h : d.sum e = some r) : r.isNaN = false := by
  cases d with
  | nan s t => cases e <;> cases h
  | infinity s =>
    cases e with
    | nan t u => cases h
    | infinity t =>
      simp only [Datum.sum] at h
      split at h <;> cases h
      rfl
    | number t n j => cases h; rfl
  | number s m i =>
    cases e with
    | nan t u => cases h
    | infinity t => cases h; rfl
    | number t n j => cases h; rfl
theorem add_sure {x y z : Nat} (h : double.add x y = some z) : Sure z := by
  unfold Format.add at h
  obtain ⟨d, h1, rfl⟩ := Option.map_eq_some_iff.1 h
  exact read_write (sum_sure h1)

/-- 1 over a zero is an infinity, and its order to zero is known. -/
theorem one_over {z : Nat} (h : double.order z 0 = some .eq) : ∃ q, floatBits .quo .f64 4607182418800017408 z = some q ∧ ∃ o, double.order q 0 = some o := by
  have e0 : double.read 0 = .number false 0 (-1074) := by decide
  have e1 : ∃ p, double.read 4607182418800017408 = .number false 4503599627370496 p := ⟨-52, by decide⟩
  obtain ⟨p, e1⟩ := e1
  unfold Format.order at h
  rw [e0] at h
  show ∃ q, double.div 4607182418800017408 z = some q ∧ _
  unfold Format.div
  rw [e1]
  cases hz : double.read z with
  | nan s t => rw [hz] at h; cases h
  | infinity s => rw [hz] at h; cases s <;> cases h
  | number s m i =>
    rw [hz] at h
    have hm : m = 0 := by
      simp only [Datum.order, Option.some.injEq, Int.compare_eq_eq] at h
      have hs : signed false 0 (-1074 - min i (-1074)).toNat = 0 := by simp [signed]
      rw [hs] at h
      unfold signed at h
      split at h
      · have : m <<< (i - min i (-1074)).toNat = 0 := by omega
        rwa [Nat.shiftLeft_eq, Nat.mul_eq_zero, or_iff_left (Nat.ne_of_gt (Nat.two_pow_pos _))] at this
      · have : m <<< (i - min i (-1074)).toNat = 0 := by omega
        rwa [Nat.shiftLeft_eq, Nat.mul_eq_zero, or_iff_left (Nat.ne_of_gt (Nat.two_pow_pos _))] at this
    subst hm
    refine ⟨double.write (.infinity (false ^^ s)), by simp [Datum.quotient], ?_⟩
    unfold Format.order
    exact order_some (read_write rfl) (by rw [e0]; rfl)

/-- What is drawn for an operation that has no answer is a NaN. -/
theorem cut_nan (x y t : Nat) : NaNs (Question.cut (.nanBits .f64 x y) t) := by
  have h : Question.cut (.nanBits .f64 x y) t = (t % 2) * 2 ^ 63 + 0x7ff0000000000000 + 1 + (t / 2) % (2 ^ 52 - 1) := rfl
  unfold NaNs
  rw [h]
  generalize hb : (t / 2) % (2 ^ 52 - 1) = b
  have hb2 : b < 2 ^ 52 - 1 := by rw [← hb]; exact Nat.mod_lt _ (by decide)
  have e1 : double.signWeight = 9223372036854775808 := by decide
  have e2 : double.infRung = 9218868437227405312 := by decide
  have e4 : double.binade = 4503599627370496 := by decide
  unfold Format.read
  simp only [e1, e2, e4]
  have h2 : ((t % 2) * 2 ^ 63 + 0x7ff0000000000000 + 1 + b) % 9223372036854775808 = 9218868437227405313 + b := by omega
  rw [h2, if_neg (by omega), if_neg (by omega), if_neg (by omega)]
  rfl
theorem nan_order {x : Nat} (h : NaNs x) (y : Nat) : double.order x y = none := order_nan h
theorem sure_order {x : Nat} (h : Sure x) : double.order x x = some .eq := order_self h
theorem sure_some {x y : Nat} (h : Sure x) (g : Sure y) : ∃ o, double.order x y = some o := order_some h g
theorem order_flip (x y : Nat) : double.order y x = (double.order x y).map Ordering.swap := order_swap _ _
theorem sure_or (x : Nat) : Sure x ∨ NaNs x := by
  unfold Sure NaNs
  cases (double.read x).isNaN <;> simp

/-- A sum that has no answer draws the bits of a NaN. -/
theorem run_sum_nan {P : Program} (w : World) (t : TypeId) (x y : Nat) (h : double.add x y = none) : ∃ n, NaNs n ∧ (binOp .add t (.float .f64 x) (.float .f64 y)).run P w = .ok (.float .f64 n) w.drew := by
  have h' : FloatKind.f64.format.add x y = none := h
  refine ⟨_, cut_nan x y (w.tape w.drawn (.nanBits .f64 x y)), ?_⟩
  simp [binOp, Op.floatArith, h']
  intro h; cases h
end Go.Proofs.YtolenhdgnlhkpaaGreatDoor
