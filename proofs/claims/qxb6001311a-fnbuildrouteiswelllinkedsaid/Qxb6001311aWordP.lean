/- PLAIN: the words of a key. No Go in sight. -/
import Derived.WalkKit
namespace Go.Proofs.Qxb6001311a

/-- Bytes read little-endian. -/
def le : List UInt8 → Nat
  | [] => 0
  | b :: bs => b.toNat + 256 * le bs

/-- The word of s at byte p: up to 8 bytes. -/
def wb (s : ByteArray) (p : Nat) : List UInt8 := (s.data.toList.drop p).take 8

theorem le_lt : ∀ l : List UInt8, le l < 256 ^ l.length
  | [] => by simp [le]
  | b :: bs => by
    have := le_lt bs
    have hb := b.toNat_lt
    simp only [le, List.length_cons, Nat.pow_succ]
    omega

theorem le_inj : ∀ l m : List UInt8, l.length = m.length → le l = le m → l = m
  | [], [], _, _ => rfl
  | [], _ :: _, h, _ => by simp at h
  | _ :: _, [], h, _ => by simp at h
  | b :: bs, c :: cs, h, e => by
    simp only [le] at e
    have hb := b.toNat_lt
    have hc := c.toNat_lt
    have e1 : b.toNat = c.toNat := by omega
    have e2 : le bs = le cs := by omega
    rw [UInt8.toNat_inj.1 e1, le_inj bs cs (by simpa using h) e2]

theorem wb_len (s : ByteArray) (p : Nat) : (wb s p).length = min 8 (s.size - p) := by
  unfold wb; rw [List.length_take, List.length_drop]; rfl

theorem le_drop (s : ByteArray) (p k : Nat) (hk : k < (wb s p).length) (hp : p + k < s.size) : le ((wb s p).drop k) = s[p + k].toNat + 256 * le ((wb s p).drop (k + 1)) := by
  have h1 : (wb s p).drop k = (wb s p)[k] :: (wb s p).drop (k + 1) := List.drop_eq_getElem_cons hk
  rw [h1]
  simp only [le]
  have : (wb s p)[k] = s[p + k] := by simp [wb]; rfl
  rw [this]

theorem le_drop_lt (s : ByteArray) (p k : Nat) (hk : 1 ≤ k) : le ((wb s p).drop k) < 72057594037927936 := by
  have h := le_lt ((wb s p).drop k)
  have hl : ((wb s p).drop k).length ≤ 7 := by
    rw [List.length_drop, wb_len]; omega
  have : (256 : Nat) ^ ((wb s p).drop k).length ≤ 256 ^ 7 := Nat.pow_le_pow_right (by omega) hl
  omega

theorem wv_lt (s : ByteArray) (p : Nat) : le (wb s p) < 18446744073709551616 := by
  have h := le_lt (wb s p)
  have hl : (wb s p).length ≤ 8 := by rw [wb_len]; omega
  have : (256 : Nat) ^ (wb s p).length ≤ 256 ^ 8 := Nat.pow_le_pow_right (by omega) hl
  omega

def wcount (s : ByteArray) : Nat := if s.size = 0 then 1 else (s.size + 7) / 8

theorem wcount_le {s : ByteArray} {k : Nat} (h : k < wcount s) : 8 * k ≤ s.size := by
  unfold wcount at h; split at h <;> omega

/-- Word a is before word b: by value, then by width. -/
def wless (a b : List UInt8) : Prop := le a < le b ∨ (le a = le b ∧ a.length < b.length)

/-- a is before b in route order. -/
def RLess (a b : ByteArray) : Prop :=
  ∃ j, (∀ i, i < j → wb a (8 * i) = wb b (8 * i)) ∧ ((j < wcount a ∧ j < wcount b ∧ wless (wb a (8 * j)) (wb b (8 * j))) ∨ (j = wcount a ∧ wcount a < wcount b))
end Go.Proofs.Qxb6001311a
