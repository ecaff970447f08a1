/- PLAIN: where the building begins. -/
import Derived.Test.Qxb6001311aStep2P
namespace Go.Proofs.Qxb6001311a

theorem weight_sum (Xs : List ByteArray) : ∀ (Ys pre : List ByteArray), Xs = pre ++ Ys → sumf (cost Xs 0) pre.length Ys.length = (Ys.map (·.size)).sum + 2 * Ys.length
  | [], _, _ => by simp [sumf]
  | Y :: Ys, pre, h => by
    have ih := weight_sum Xs Ys (pre ++ [Y]) (by simp [h])
    have hk : key Xs pre.length = Y := by
      rw [key_eq Xs pre.length (by rw [h]; simp)]
      simp [h]
    have hc : cost Xs 0 pre.length = Y.size + 2 := by unfold cost; rw [hk]; rfl
    simp only [List.length_append, List.length_singleton] at ih
    simp only [List.length_cons, sumf, List.map_cons, List.sum_cons]
    rw [hc, ih]
    omega

theorem weight_all (Xs : List ByteArray) : weight Xs ⟨0, Xs.length, 0⟩ = (Xs.map (·.size)).sum + 2 * Xs.length := by
  have := weight_sum Xs Xs [] rfl
  exact this

theorem bld_init (Xs : List ByteArray) (h0 : 0 < Xs.length) (B : Nat) (hB : 2 * ((Xs.map (·.size)).sum + 2 * Xs.length) ≤ B) : Bld Xs B [] [] [⟨0, Xs.length, 0, false, false, -1⟩] := by
  refine ⟨⟨rfl, fun i d g h => by simp at h, fun i d g R h => by simp at h, fun i d g h => by simp at h, ?_, ⟨rfl, rfl⟩, fun i d h => by simp at h, .inl ⟨rfl, _, rfl, rfl⟩⟩, ?_, fun i d h => by simp at h⟩
  · intro t ht
    simp at ht
    subst ht
    refine ⟨⟨h0, Nat.le_refl _, rfl, fun i _ _ => ⟨Nat.zero_le _, fun x => absurd x (Nat.lt_irrefl _)⟩, fun i j _ _ _ _ => by simp [Tk.rg]⟩, .inl ⟨rfl, rfl, rfl⟩⟩
  · have hw := weight_all Xs
    rw [meas_cons]
    show 0 + 2 * (weight Xs ⟨0, Xs.length, 0⟩ - 1 + 0) + 0 ≤ B
    omega

/-- The ranks of the nodes that end a key. -/
theorem tile_le : ∀ (c : Nat) (ts : List Tk) (n : Nat), Tile c ts n → (∀ t ∈ ts, t.lo < t.hi) → c ≤ n
  | c, [], n, h, _ => by unfold Tile at h; omega
  | c, t :: ts, n, h, k => by
    unfold Tile at h
    have := tile_le t.hi ts n h.2 (fun t ht => k t (List.mem_cons_of_mem _ ht))
    have := k t List.mem_cons_self
    omega
theorem kc_all {Xs : List ByteArray} {ns : List Nd} {G : List Gh} (h : Inv Xs ns G []) : kc ns = Xs.length := h.tile
theorem kc_take_succ (ns : List Nd) (i : Nat) (d : Nd) (h : ns[i]? = some d) : kc (ns.take (i + 1)) = kc (ns.take i) + if d.ky then 1 else 0 := by
  obtain ⟨hi, e⟩ := List.getElem?_eq_some_iff.1 h
  rw [List.take_succ_eq_append_getElem hi, kc_snoc, e]
theorem kc_take_le (ns : List Nd) (i : Nat) : kc (ns.take i) ≤ kc ns := by
  have h : kc ns = kc (ns.take i) + kc (ns.drop i) := by
    unfold kc
    rw [← List.length_append, ← List.filter_append, ← List.map_append, List.take_append_drop]
  omega
theorem rank_lt {Xs : List ByteArray} {ns : List Nd} {G : List Gh} (h : Inv Xs ns G []) {i : Nat} {d : Nd} (hd : ns[i]? = some d) (hk : d.ky = true) : d.rk = kc (ns.take i) ∧ d.rk < Xs.length := by
  have e := h.rank i d hd hk
  have s := kc_take_succ ns i d hd
  rw [hk] at s
  have l := kc_take_le ns (i + 1)
  have a := kc_all h
  simp at s
  exact ⟨e, by omega⟩
/-- What ends a key is an equal node. -/
theorem key_kind {Xs : List ByteArray} {ns : List Nd} {G : List Gh} (h : Inv Xs ns G []) {i : Nat} {d : Nd} (hd : ns[i]? = some d) (hk : d.ky = true) : d.kind = 1 := by
  have hi := lt_of_get hd
  rw [← h.len] at hi
  obtain ⟨ok, _⟩ := h.ok i d G[i] hd (List.getElem?_eq_getElem hi)
  rcases ok with ⟨_, x, _⟩ | ⟨_, x⟩ | ⟨x, _⟩
  · rw [hk] at x; cases x
  · rw [hk] at x; cases x
  · exact x
end Go.Proofs.Qxb6001311a
