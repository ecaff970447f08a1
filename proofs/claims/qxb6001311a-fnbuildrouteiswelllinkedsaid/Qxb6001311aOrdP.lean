/- PLAIN: the order of the keys within a level. -/
import Derived.Test.Qxb6001311aLvlP
namespace Go.Proofs.Qxb6001311a

/-- A range of keys, and the byte from which on their words are told apart. -/
structure Rg where
  lo : Nat
  hi : Nat
  p : Nat

/-- Bytes of a key. -/
def kb (Xs : List ByteArray) (i : Nat) : List UInt8 := (key Xs i).data.toList
theorem kb_len (Xs : List ByteArray) (i : Nat) : (kb Xs i).length = (key Xs i).size := rfl
theorem kb_inj {Xs : List ByteArray} {i : Nat} {P : ByteArray} (h : kb Xs i = P.data.toList) : key Xs i = P := by
  have : (key Xs i).data = P.data := Array.toList_inj.1 h
  exact ByteArray.ext this

/-- The keys lo to hi go on beyond byte p (or p is 0) and share all bytes before it. -/
structure Lvl (Xs : List ByteArray) (r : Rg) : Prop where
  ne : r.lo < r.hi
  le : r.hi ≤ Xs.length
  m8 : r.p % 8 = 0
  size : ∀ i, r.lo ≤ i → i < r.hi → r.p ≤ (key Xs i).size ∧ (0 < r.p → r.p < (key Xs i).size)
  pre : ∀ i j, r.lo ≤ i → i < r.hi → r.lo ≤ j → j < r.hi → (kb Xs i).take r.p = (kb Xs j).take r.p

theorem Lvl.sub {Xs : List ByteArray} {r : Rg} (h : Lvl Xs r) (lo hi : Nat) (h1 : r.lo ≤ lo) (h2 : lo < hi) (h3 : hi ≤ r.hi) : Lvl Xs ⟨lo, hi, r.p⟩ :=
  ⟨h2, Nat.le_trans h3 h.le, h.m8, fun i a b => h.size i (Nat.le_trans h1 a) (Nat.lt_of_lt_of_le b h3), fun i j a b c d => h.pre i j (Nat.le_trans h1 a) (Nat.lt_of_lt_of_le b h3) (Nat.le_trans h1 c) (Nat.lt_of_lt_of_le d h3)⟩

def Sorted (Xs : List ByteArray) : Prop := ∀ i, i + 1 < Xs.length → RLess (key Xs i) (key Xs (i + 1))

theorem wless_irrefl (a : List UInt8) : ¬ wless a a := by unfold wless; omega
theorem wless_trans {a b c : List UInt8} (h : wless a b) (k : wless b c) : wless a c := by unfold wless at *; omega
def wle (a b : List UInt8) : Prop := wless a b ∨ a = b
theorem wle_trans {a b c : List UInt8} (h : wle a b) (k : wle b c) : wle a c := by
  rcases h with h | rfl
  · rcases k with k | rfl
    · exact .inl (wless_trans h k)
    · exact .inl h
  · exact k
theorem wle_val {a b : List UInt8} (h : wle a b) : le a ≤ le b := by
  rcases h with h | rfl
  · unfold wless at h; omega
  · exact Nat.le_refl _

/-- Equal prefixes: equal words before them. -/
theorem wb_of_take {a b : ByteArray} {q m : Nat} (h : a.data.toList.take (8 * m) = b.data.toList.take (8 * m)) (hq : q < m) : wb a (8 * q) = wb b (8 * q) := by
  unfold wb
  have e : ∀ l : List UInt8, (l.drop (8 * q)).take 8 = ((l.take (8 * m)).drop (8 * q)).take 8 := fun l => by
    rw [List.drop_take, List.take_take, Nat.min_eq_left (by omega)]
  rw [e, e b.data.toList, h]

theorem wcount_spec (s : ByteArray) : (s.size = 0 ∧ wcount s = 1) ∨ (0 < s.size ∧ s.size ≤ 8 * wcount s ∧ 8 * wcount s < s.size + 8) := by
  unfold wcount; split <;> omega

/-- Two neighbours of a level. -/
theorem adj {Xs : List ByteArray} (hS : Sorted Xs) {r : Rg} (h : Lvl Xs r) (i : Nat) (h1 : r.lo ≤ i) (h2 : i + 1 < r.hi) :
    wless (wb (key Xs i) r.p) (wb (key Xs (i + 1)) r.p) ∨ (wb (key Xs i) r.p = wb (key Xs (i + 1)) r.p ∧ (wb (key Xs i) r.p).length = 8 ∧ r.p + 8 < (key Xs (i + 1)).size) := by
  obtain ⟨m, hm⟩ : ∃ m, r.p = 8 * m := ⟨r.p / 8, by have := h.m8; omega⟩
  obtain ⟨s1, s1'⟩ := h.size i h1 (by omega)
  obtain ⟨s2, s2'⟩ := h.size (i + 1) (by omega) h2
  have hpre := h.pre i (i + 1) h1 (by omega) (by omega) h2
  unfold kb at hpre
  rw [hm] at hpre s1 s1' s2 s2' ⊢
  obtain ⟨j, hj, hc⟩ := hS i (Nat.lt_of_lt_of_le h2 h.le)
  have ca : m < wcount (key Xs i) := by unfold wcount; split <;> omega
  have cb : m < wcount (key Xs (i + 1)) := by unfold wcount; split <;> omega
  rcases Nat.lt_trichotomy j m with hlt | rfl | hgt
  · have e := wb_of_take hpre hlt
    rcases hc with ⟨_, _, hw⟩ | ⟨hw, _⟩
    · rw [e] at hw; exact absurd hw (wless_irrefl _)
    · omega
  · rcases hc with ⟨_, _, hw⟩ | ⟨hw, _⟩
    · exact .inl hw
    · omega
  · right
    have e := hj m hgt
    have la := wb_len (key Xs i) (8 * m)
    have lb := wb_len (key Xs (i + 1)) (8 * m)
    rw [e] at la
    have sa := wcount_spec (key Xs i)
    have sb := wcount_spec (key Xs (i + 1))
    have hc' : (j < wcount (key Xs i) ∧ j < wcount (key Xs (i + 1))) ∨ (j = wcount (key Xs i) ∧ wcount (key Xs i) < wcount (key Xs (i + 1))) := by
      rcases hc with ⟨k1, k2, _⟩ | k
      · exact .inl ⟨k1, k2⟩
      · exact .inr k
    refine ⟨e, ?_, ?_⟩
    · rw [e]
      omega
    · omega

theorem mono {Xs : List ByteArray} (hS : Sorted Xs) {r : Rg} (h : Lvl Xs r) (i : Nat) (h1 : r.lo ≤ i) : ∀ d, i + d < r.hi → wle (wb (key Xs i) r.p) (wb (key Xs (i + d)) r.p)
  | 0, _ => .inr rfl
  | d + 1, hd => by
    have ih := mono hS h i h1 d (by omega)
    refine wle_trans ih ?_
    rcases adj hS h (i + d) (by omega) (by omega) with a | a
    · exact .inl a
    · exact .inr a.1

theorem mono' {Xs : List ByteArray} (hS : Sorted Xs) {r : Rg} (h : Lvl Xs r) {i j : Nat} (h1 : r.lo ≤ i) (h2 : i ≤ j) (h3 : j < r.hi) : wle (wb (key Xs i) r.p) (wb (key Xs j) r.p) := by
  have := mono hS h i h1 (j - i) (by omega)
  rwa [Nat.add_sub_cancel' h2] at this
end Go.Proofs.Qxb6001311a
