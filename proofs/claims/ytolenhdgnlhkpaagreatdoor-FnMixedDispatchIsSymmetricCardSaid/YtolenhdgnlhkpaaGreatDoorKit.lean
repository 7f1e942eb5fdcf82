/-
  Small words shared by this seat's proofs: rows of values in memory (a slice that is read), Booleans as results; no Go function is named here.
-/
import Derived.WalkKit
import Derived.Lib.AppendStr
import Derived.Lib.UnsafeStr
import Derived.Laws.BytesArg
import Derived.Lib.Join
namespace Go.Proofs.YtolenhdgnlhkpaaGreatDoor
open Go Go.RowKit

/-- The cells that a slice with address 'a' shows: none, or they lie in one row. -/
def Row (w : World) (a : Option Addr) (vs : List Value) : Prop :=
  vs = [] ∨ ∃ b off, a = some ⟨b, off, none⟩ ∧ b < w.heap.size ∧ ∀ j u, vs[j]? = some u → w.cell? ⟨b, off + j, none⟩ = some u

theorem Row.at {w : World} {a : Option Addr} {vs : List Value} (h : Row w a vs) {k : Nat} (hk : k < vs.length) :
    ∃ b off, a = some ⟨b, off, none⟩ ∧ b < w.heap.size ∧ ∀ j u, vs[j]? = some u → w.cell? ⟨b, off + j, none⟩ = some u := by
  rcases h with rfl | h
  · simp at hk
  · exact h

theorem Row.below {w w' : World} {a : Option Addr} {vs : List Value} (h : Row w a vs) {B : Nat} (hB : w.heap.size ≤ B) (hb : Below B w w') : Row w' a vs := by
  rcases h with h | ⟨b, off, h1, h2, h3⟩
  · exact .inl h
  · exact .inr ⟨b, off, h1, Nat.lt_of_lt_of_le h2 hb.size, fun j u hu => (hb.cell (p := ⟨b, off + j, none⟩) (Nat.lt_of_lt_of_le h2 hB)).trans (h3 j u hu)⟩

/-- A row that the call owns shows its cells. -/
theorem row_of_owns {w : World} {base : Nat} {e : TypeId} {a : Option Addr} {cap : Nat} {vs : List Value} (h : w.ownsRow base e 1 (.slice a vs.length cap) vs.length vs) : Row w a vs := by
  rcases h.2 with ⟨_, h0⟩ | ⟨g, cap', cur, hv, hb, hg, hn, hm, hs, ht⟩
  · exact .inl (List.eq_nil_of_length_eq_zero h0)
  · simp only [Value.slice.injEq, true_and] at hv
    obtain ⟨rfl, rfl⟩ := hv
    refine .inr ⟨g, 0, rfl, (Array.getElem?_eq_some_iff.1 hg).1, fun j u hu => ?_⟩
    have hj : j < vs.length := (List.getElem?_eq_some_iff.1 hu).1
    rw [Nat.zero_add, h.cellAt j (by omega)]
    exact hu

/-- The result is some Boolean. -/
def SomeBool (e : Ending) : Prop := ∃ b : Bool, e = .returned (.bool b)

/-- Strings as values. -/
def strV (ss : List ByteArray) : List Value := ss.map Value.string
theorem strV_get (ss : List ByteArray) {k : Nat} (h : k < ss.length) : (strV ss)[k]? = some (.string ss[k]) := by simp [strV, h]
theorem strV_len (ss : List ByteArray) : (strV ss).length = ss.length := by simp [strV]

theorem ret_int {k : IntKind} {a b : Int} (h : a = b) : Ending.returned (.int k a) = .returned (.int k b) := by rw [h]

/-- A row that is being filled: the first k values, then zero values. -/
def filled (vs : List Value) (z : Value) (k : Nat) : List Value := vs.take k ++ List.replicate (vs.length - k) z
theorem filled_zero (vs : List Value) (z : Value) : filled vs z 0 = List.replicate vs.length z := by simp [filled]
theorem filled_all (vs : List Value) (z : Value) : filled vs z vs.length = vs := by simp [filled]
theorem filled_len (vs : List Value) (z : Value) (k : Nat) (h : k ≤ vs.length) : (filled vs z k).length = vs.length := by simp [filled]; omega
theorem filled_set (vs : List Value) (z u : Value) (k : Nat) (h : vs[k]? = some u) : (filled vs z k).set k u = filled vs z (k + 1) := by
  obtain ⟨hk, rfl⟩ := List.getElem?_eq_some_iff.1 h
  apply List.ext_getElem?
  intro j
  simp only [filled]
  rw [List.getElem?_set]
  by_cases hj : k = j
  · subst hj
    rw [if_pos rfl, if_pos (by simp; omega)]
    rw [List.getElem?_append_left (by simp; omega)]
    rw [List.getElem?_take, if_pos (by omega), h]
  · rw [if_neg hj]
    by_cases h1 : j < k
    · rw [List.getElem?_append_left (by simp; omega), List.getElem?_append_left (by simp; omega)]
      simp [h1, show j < k + 1 by omega]
    · rw [List.getElem?_append_right (by simp; omega), List.getElem?_append_right (by simp; omega)]
      simp only [List.length_take, List.getElem?_replicate]
      have e1 : min k vs.length = k := by omega
      have e2 : min (k + 1) vs.length = k + 1 := by omega
      rw [e1, e2]
      by_cases h2 : j < vs.length
      · rw [if_pos (by omega), if_pos (by omega)]
      · rw [if_neg (by omega), if_neg (by omega)]
theorem filled_at (vs : List Value) (z : Value) (k : Nat) (h : k < vs.length) : (filled vs z k)[k]? = some z := by
  simp only [filled]
  rw [List.getElem?_append_right (by simp; omega)]
  simp only [List.length_take, List.getElem?_replicate]
  rw [if_pos (by omega)]

/-- ONE STORE of the filling: what is owned behind it. -/
theorem fill_step {w wr : World} {g n cap : Nat} {e : TypeId} {vs : List Value} {z u : Value} {k : Nat}
    (hown : wr.ownsRow w.heap.size e 1 (.slice (some ⟨g, 0, none⟩) n cap) n (filled vs z k)) (hb : Below w.heap.size w wr) (hu : vs[k]? = some u) :
    (wr.setCell ⟨g, k, none⟩ u).ownsRow w.heap.size e 1 (.slice (some ⟨g, 0, none⟩) n cap) n (filled vs z (k + 1)) ∧ Below w.heap.size w (wr.setCell ⟨g, k, none⟩ u) := by
  obtain ⟨h1, _⟩ := hown.stored k u
  rw [filled_set vs z u k hu] at h1
  exact ⟨h1, hb.setCell (by simpa using (hown.lt g rfl).1) u⟩

/-- The result is a slice that the call has made and filled with 'vs'; what was there before is as it was. -/
def MadeRow (w : World) (e : TypeId) (vs : List Value) (en : Ending) (w' : World) : Prop :=
  ∃ a cap n, n = vs.length ∧ en = .returned (.slice a n cap) ∧ w'.ownsRow w.heap.size e 1 (.slice a n cap) n vs ∧ Below w.heap.size w w' ∧ (a = none → n = 0 ∧ cap = 0)

/-! ### Bytes -/
open Go.Lib (byteCells byteCells_length byteCells_append)

theorem take_snoc (s : ByteArray) (k : Nat) (h : k < s.size) : s.data.toList.take (k + 1) = s.data.toList.take k ++ [s[k]] := by
  rw [List.take_succ_eq_append_getElem (by simpa using h)]; rfl

theorem len_toList (s : ByteArray) : s.data.toList.length = s.size := by rw [Array.length_toList]; rfl
/-- The first k bytes, each turned into some bytes. -/
def esc (f : UInt8 → List UInt8) (s : ByteArray) (k : Nat) : List UInt8 := (s.data.toList.take k).flatMap f
theorem esc_zero (f : UInt8 → List UInt8) (s : ByteArray) : esc f s 0 = [] := by simp [esc]
theorem esc_succ (f : UInt8 → List UInt8) (s : ByteArray) (k : Nat) (h : k < s.size) : esc f s (k + 1) = esc f s k ++ f s[k] := by
  unfold esc
  rw [take_snoc s k h, List.flatMap_append]
  simp
theorem esc_all (f : UInt8 → List UInt8) (s : ByteArray) : esc f s s.size = s.data.toList.flatMap f := by
  unfold esc
  rw [List.take_of_length_le (by simp)]
theorem flat_len (f : UInt8 → List UInt8) (m : Nat) (hf : ∀ b, (f b).length ≤ m) (l : List UInt8) : (l.flatMap f).length ≤ m * l.length := by
  induction l with
  | nil => simp
  | cons x l ih => rw [List.flatMap_cons, List.length_append, List.length_cons, Nat.mul_succ]; have := hf x; omega
theorem esc_len (f : UInt8 → List UInt8) (m : Nat) (hf : ∀ b, (f b).length ≤ m) (s : ByteArray) (k : Nat) : (esc f s k).length ≤ m * k := by
  have h1 := flat_len f m hf (s.data.toList.take k)
  have h2 : (s.data.toList.take k).length ≤ k := List.length_take_le _ _
  exact Nat.le_trans h1 (Nat.mul_le_mul_left m h2)

/-- A text of these bytes (a name, so that the walk does not look inside). -/
def txt (l : List UInt8) : ByteArray := ⟨l.toArray⟩
theorem txt_toList (l : List UInt8) : (txt l).data.toList = l := rfl
theorem txt_size (l : List UInt8) : (txt l).size = l.length := by show l.toArray.size = _; simp
theorem txt_self (s : ByteArray) : txt s.data.toList = s := rfl
theorem txt_append (l m : List UInt8) : txt l ++ txt m = txt (l ++ m) := by
  apply ByteArray.ext
  show (txt l ++ txt m).data = (l ++ m).toArray
  simp [txt]

/-- 'string(b)' of bytes that the call owns. -/
theorem conv_own {P : Program} {w : World} {base src dst e n : Nat} {v : Value} {l : List UInt8} (hs : P.underlying src = some (.slice e)) (he : P.underlying e = some (.int .u8)) (hd : P.underlying dst = some .string)
    (h : w.ownsRow base e 1 v n (byteCells l)) : (convert src dst v).run P w = .ok (.string (txt l)) w := by
  show _ = Result.ok (Value.string ⟨l.toArray⟩) w
  have hn : n = l.length := by have := h.1; rw [byteCells_length] at this; omega
  rcases h.2 with ⟨rfl, h0⟩ | ⟨g, cap, cur, rfl, hb, hg, hnc, hm, hsz, ht⟩
  · rw [run_convert_bytes_nil w src e hs he 0 0 dst hd]
    have : l = [] := List.eq_nil_of_length_eq_zero (by omega)
    subst this
    rfl
  · have key := run_convert_bytes_arg (P := P) w src e hs he g 0 n cap (l.map fun b => (b.toNat : Int)) (by simp [hn]) (fun i hi => by
      have e1 := h.cellAt (g := g) (n := n) (cap := cap) i (by omega)
      rw [Nat.zero_add, e1]
      have hil : i < l.length := by omega
      simp [byteCells, List.getD, hil]) dst hd
    rw [key]
    congr 1
    have e2 : (l.map fun b => (b.toNat : Int)).map (fun n => UInt8.ofNat n.toNat) = l := by
      rw [List.map_map]
      conv => rhs; rw [← List.map_id l]
      exact List.map_congr_left fun b _ => by simp
    unfold strOfNums
    rw [e2]

/-- The cells of a block that has just been laid. -/
theorem cells_new (w : World) (cs : List Value) (t : TypeId) : ∀ j u, cs[j]? = some u → (w.alloc (.cells cs.toArray t)).cell? ((⟨w.heap.size, 0, none⟩ : Addr).add j) = some u := by
  intro j u hj
  rw [Addr.add_lit, Nat.zero_add, World.cell?_alloc_at _ _ _ _ rfl]
  simpa using hj
/-- The result is a slice of bytes that the call owns from 'base' on: these bytes; what lay below 'base' is as it was. -/
def Grew (base e : Nat) (w : World) (l : List UInt8) (en : Ending) (w' : World) : Prop :=
  ∃ v', en = .returned v' ∧ w'.ownsRow base e 1 v' l.length (byteCells l) ∧ Below base w w'
theorem bytes_one (l : List UInt8) : ∀ u ∈ byteCells l, u.oneCell' = true := by
  intro u hu
  obtain ⟨b, _, rfl⟩ := List.mem_map.1 hu
  rfl
theorem below_own' {base e size n : Nat} {w0 w w' : World} {v : Value} {xs : List Value} (h : Below base w0 w) (hbs : base ≤ w.heap.size) (hown : w.ownsRow base e size v n xs) (hg : w.grownBy w' v.ownBlock) : Below base w0 w' :=
  h.grown hg hbs fun k hk => (hown.lt k hk).1
/-- The result is this text; what was there before is as it was. -/
def Says (w : World) (l : List UInt8) (e : Ending) (w' : World) : Prop := e = .returned (.string (txt l)) ∧ Below w.heap.size w w'
theorem below_own {B base e size n : Nat} {w0 w w' : World} {v : Value} {xs : List Value} (h : Below B w0 w) (hB : B ≤ base) (hbs : base ≤ w.heap.size) (hown : w.ownsRow base e size v n xs) (hg : w.grownBy w' v.ownBlock) : Below B w0 w' :=
  h.grown hg (Nat.le_trans hB hbs) fun k hk => Nat.le_trans hB (hown.lt k hk).1

/-- What the call owns stays owned when a callee has laid blocks of its own. -/
theorem own_below {B base e size n : Nat} {w w' : World} {v : Value} {xs : List Value} (h : w.ownsRow base e size v n xs) (hb : Below B w w') (hlt : ∀ k, v.ownBlock = some k → k < B) : w'.ownsRow base e size v n xs := by
  refine ⟨h.1, ?_⟩
  rcases h.2 with h2 | ⟨g, cap, cur, hv, hg, hh, r⟩
  · exact .inl h2
  · exact .inr ⟨g, cap, cur, hv, hg, by rw [hb.block g (hlt g (by rw [hv]; rfl))]; exact hh, r⟩
theorem own_below' {base e size n : Nat} {w w' : World} {v : Value} {xs : List Value} (h : w.ownsRow base e size v n xs) (hb : Below w.heap.size w w') : w'.ownsRow base e size v n xs :=
  own_below h hb fun k hk => (h.lt k hk).2
end Go.Proofs.YtolenhdgnlhkpaaGreatDoor
