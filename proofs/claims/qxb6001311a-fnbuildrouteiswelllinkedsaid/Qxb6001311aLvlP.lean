/- PLAIN: the keys by number. -/
import Derived.Test.Qxb6001311aWordP
namespace Go.Proofs.Qxb6001311a

/-- Key number i. -/
def key (Xs : List ByteArray) (i : Nat) : ByteArray := Xs.getD i ByteArray.empty
/-- The value of key i's word at byte p. -/
def kv (Xs : List ByteArray) (i p : Nat) : Nat := le (wb (key Xs i) p)

theorem key_eq (Xs : List ByteArray) (i : Nat) (h : i < Xs.length) : key Xs i = Xs[i] := by simp [key, List.getD, h]
theorem key_mem (Xs : List ByteArray) (i : Nat) (h : i < Xs.length) : key Xs i ∈ Xs := by rw [key_eq Xs i h]; exact List.getElem_mem h

/-- What split has gathered: where each value begins. -/
structure StOk (Xs : List ByteArray) (lo p k : Nat) (S : List Nat) : Prop where
  len : S.length ≤ k - lo
  ne : lo < k → 0 < S.length
  elem : ∀ j s, S[j]? = some s → lo ≤ s ∧ s < k ∧ (j = 0 ∨ (lo < s ∧ kv Xs (s - 1) p ≠ kv Xs s p))

theorem stOk_nil (Xs : List ByteArray) (lo p : Nat) : StOk Xs lo p lo [] := ⟨by simp, by omega, by simp⟩
theorem stOk_first (Xs : List ByteArray) (lo p : Nat) : StOk Xs lo p (lo + 1) [lo] := ⟨by simp, by simp, fun j s h => by
  rcases j with _ | j
  · simp at h; subst h; exact ⟨Nat.le_refl _, by omega, .inl rfl⟩
  · simp at h⟩
theorem StOk.skip {Xs : List ByteArray} {lo p k : Nat} {S : List Nat} (h : StOk Xs lo p k S) (hk : lo < k) : StOk Xs lo p (k + 1) S :=
  ⟨by have := h.len; omega, fun _ => h.ne hk, fun j s e => by have := h.elem j s e; exact ⟨this.1, by omega, this.2.2⟩⟩
theorem StOk.push {Xs : List ByteArray} {lo p k : Nat} {S : List Nat} (h : StOk Xs lo p k S) (hk : lo < k) (hv : kv Xs (k - 1) p ≠ kv Xs k p) : StOk Xs lo p (k + 1) (S ++ [k]) :=
  ⟨by have := h.len; simp; omega, fun _ => by simp, fun j s e => by
    rcases Nat.lt_or_ge j S.length with g | g
    · rw [List.getElem?_append_left g] at e
      have := h.elem j s e; exact ⟨this.1, by omega, this.2.2⟩
    · rw [List.getElem?_append_right g] at e
      rcases hj : j - S.length with _ | q
      · rw [hj] at e; simp at e; subst e
        exact ⟨by omega, by omega, .inr ⟨hk, hv⟩⟩
      · rw [hj] at e; simp at e⟩
theorem StOk.pick {Xs : List ByteArray} {lo p k : Nat} {S : List Nat} (h : StOk Xs lo p k S) (j : Nat) (hj : j < S.length) (h0 : 0 < j) : lo < S.getD j 0 ∧ S.getD j 0 < k ∧ kv Xs (S.getD j 0 - 1) p ≠ kv Xs (S.getD j 0) p := by
  have e : S[j]? = some (S.getD j 0) := by simp [List.getD, hj]
  obtain ⟨_, h2, h3⟩ := h.elem j _ e
  rcases h3 with h3 | h3
  · omega
  · exact ⟨h3.1, h2, h3.2⟩
end Go.Proofs.Qxb6001311a
