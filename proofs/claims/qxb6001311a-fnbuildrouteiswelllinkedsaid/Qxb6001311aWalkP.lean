/- PLAIN: a reader that follows the route. -/
import Derived.Test.Qxb6001311aStep2P
namespace Go.Proofs.Qxb6001311a

/-- The reader for P stands at node i, at byte p. -/
structure At (Xs : List ByteArray) (G : List Gh) (P : ByteArray) (i p : Nat) (g : Gh) : Prop where
  gh : G[i]? = some g
  pos : g.p = p
  le : p ≤ P.size
  pre : ∀ r, g.lo ≤ r → r < g.hi → (kb Xs r).take p = P.data.toList.take p
  only : ∀ r, r < Xs.length → key Xs r = P → g.lo ≤ r ∧ r < g.hi

theorem At.to {Xs : List ByteArray} {G : List Gh} {P : ByteArray} {i j p : Nat} {g g' : Gh} {R : Rg} (h : At Xs G P i p g) (hg : G[j]? = some g') (hr : g'.rg = R) (hp : R.p = p) (h1 : g.lo ≤ R.lo) (h2 : R.hi ≤ g.hi)
    (ho : ∀ r, r < Xs.length → key Xs r = P → R.lo ≤ r ∧ r < R.hi) : At Xs G P j p g' := by
  subst hr
  exact ⟨hg, hp, h.le, fun r a b => h.pre r (Nat.le_trans h1 a) (Nat.lt_of_lt_of_le b h2), ho⟩

theorem at_start {Xs : List ByteArray} {ns : List Nd} {G : List Gh} (hI : Inv Xs ns G []) (P : ByteArray) : ∃ g, At Xs G P 0 0 g := by
  rcases hI.head with ⟨_, t, e, _⟩ | ⟨g, e, hg⟩
  · cases e
  · have e1 : g.lo = 0 := congrArg Rg.lo hg
    have e2 : g.hi = Xs.length := congrArg Rg.hi hg
    have e3 : g.p = 0 := congrArg Rg.p hg
    exact ⟨g, e, e3, Nat.zero_le _, fun _ _ _ => by simp, fun r a _ => ⟨by omega, by omega⟩⟩

/-- The word of P, and of a key of the level. -/
theorem key_word {Xs : List ByteArray} {r p : Nat} {P : ByteArray} (h : key Xs r = P) : wb (key Xs r) p = wb P p := by rw [h]

section
variable {Xs : List ByteArray} {ns : List Nd} {G : List Gh} {P : ByteArray} {i p : Nat} {g : Gh} {d : Nd}

theorem At.lt (h : At Xs G P i p g) (hI : Inv Xs ns G []) : i < ns.length := by rw [← hI.len]; exact lt_of_get h.gh

theorem step_next (hI : Inv Xs ns G []) (hd : ns[i]? = some d) (hg : G[i]? = some g) {R : Rg} (hn : nxt Xs d g = some R) : ∃ g', G[i + 1]? = some g' ∧ g'.rg = R := by
  rcases hI.next i d g R hd hg hn with h | ⟨_, t, _, e, _⟩
  · exact h
  · cases e
theorem step_targ (hI : Inv Xs ns G []) (hd : ns[i]? = some d) (hg : G[i]? = some g) (ht : hasTg d) :
    i < d.tg ∧ ∃ (d' : Nd) (g' : Gh), ns[d.tg]? = some d' ∧ G[d.tg]? = some g' ∧ g'.rg = g.up ∧ (d.kind = 2 → d'.kind = 3) ∧ (d.kind = 1 → d'.kind = 1) := by
  rcases hI.targ i d g hd hg ht with ⟨t, e, _⟩ | h
  · cases e
  · exact h

theorem lt_low (hI : Inv Xs ns G []) (h : At Xs G P i p g) (hd : ns[i]? = some d) (hk : d.kind = 2) (hv : le (wb P p) ≤ d.wv) : ∃ g', At Xs G P (i + 1) p g' := by
  obtain ⟨g', e1, e2⟩ := step_next hI hd h.gh (R := ⟨g.lo, g.m, g.p⟩) (by simp [nxt, hk])
  obtain ⟨ok, _⟩ := hI.ok i d g hd h.gh
  rcases ok with ⟨_, _, a, b, c, e⟩ | ⟨x, _⟩ | ⟨x, _⟩
  · refine ⟨g', h.to e1 e2 h.pos (Nat.le_refl _) (Nat.le_of_lt b) fun r h1 h2 => ?_⟩
    have := h.only r h1 h2
    refine ⟨this.1, ?_⟩
    rcases Nat.lt_or_ge r g.m with x | x
    · exact x
    · have y := e r x this.2
      unfold kv at y
      rw [h2, h.pos] at y
      omega
  · omega
  · omega
theorem lt_high (hI : Inv Xs ns G []) (h : At Xs G P i p g) (hd : ns[i]? = some d) (hk : d.kind = 2) (hv : ¬ le (wb P p) ≤ d.wv) : i < d.tg ∧ ∃ g', At Xs G P d.tg p g' := by
  obtain ⟨x, d', g', _, e1, e2, _⟩ := step_targ hI hd h.gh (.inl hk)
  obtain ⟨ok, _⟩ := hI.ok i d g hd h.gh
  rcases ok with ⟨_, _, a, b, c, e⟩ | ⟨x, _⟩ | ⟨x, _⟩
  · refine ⟨x, g', h.to e1 e2 h.pos (Nat.le_of_lt a) (Nat.le_refl _) fun r h1 h2 => ?_⟩
    have := h.only r h1 h2
    refine ⟨?_, this.2⟩
    rcases Nat.lt_or_ge r g.m with x | x
    · have y := c r this.1 x
      unfold kv at y
      rw [h2, h.pos] at y
      omega
    · exact x
  · omega
  · omega
theorem els_next (hI : Inv Xs ns G []) (h : At Xs G P i p g) (hd : ns[i]? = some d) (hk : d.kind = 3) : ∃ g', At Xs G P (i + 1) p g' := by
  obtain ⟨g', e1, e2⟩ := step_next hI hd h.gh (R := g.rg) (by simp [nxt, hk])
  exact ⟨g', h.to e1 e2 h.pos (Nat.le_refl _) (Nat.le_refl _) fun r h1 h2 => h.only r h1 h2⟩

theorem eq_ok (hI : Inv Xs ns G []) (hd : ns[i]? = some d) (hg : G[i]? = some g) (hk : d.kind = 1) :
    Lvl Xs g.rg ∧ Grp Xs g.rg g.m ∧ d.wv = kv Xs g.lo g.p ∧ d.ww = (wb (key Xs g.lo) g.p).length ∧ d.last = decide (g.m = g.hi) ∧ d.ky = owns Xs g.rg ∧ d.ch = decide (rest Xs g.rg < g.m) ∧ d.rk = g.lo := by
  obtain ⟨ok, hL⟩ := hI.ok i d g hd hg
  rcases ok with ⟨x, _⟩ | ⟨x, _⟩ | ⟨_, x⟩
  · omega
  · omega
  · exact ⟨hL, x⟩

/-- The word matches just when the bytes do. -/
theorem word_iff (h : At Xs G P i p g) (hw : d.wv = kv Xs g.lo g.p) (hww : d.ww = (wb (key Xs g.lo) g.p).length) : (le (wb P p) = d.wv ∧ (wb P p).length = d.ww) ↔ wb P p = wb (key Xs g.lo) p := by
  rw [hw, hww, h.pos]
  constructor
  · rintro ⟨a, b⟩; exact le_inj _ _ b a
  · intro e; rw [e]; exact ⟨rfl, rfl⟩

/-- A key that matches the word is one of the group. -/
theorem in_grp (hS : Sorted Xs) (hL : Lvl Xs g.rg) (hG : Grp Xs g.rg g.m) (h : At Xs G P i p g) (he : wb P p = wb (key Xs g.lo) p) {r : Nat} (h1 : r < Xs.length) (h2 : key Xs r = P) : g.lo ≤ r ∧ r < g.m := by
  have ho := h.only r h1 h2
  refine ⟨ho.1, ?_⟩
  rcases Nat.lt_or_ge r g.m with x | x
  · exact x
  · have e : g.rg.p = p := h.pos
    have := hG.after hS hL r x ho.2
    rw [e, h2] at this
    exact absurd he this
theorem not_grp (hG : Grp Xs g.rg g.m) (h : At Xs G P i p g) (he : ¬ wb P p = wb (key Xs g.lo) p) {r : Nat} (h1 : r < Xs.length) (h2 : key Xs r = P) : g.m ≤ r ∧ r < g.hi := by
  have ho := h.only r h1 h2
  refine ⟨?_, ho.2⟩
  rcases Nat.lt_or_ge r g.m with x | x
  · have e : g.rg.p = p := h.pos
    have := hG.same r ho.1 x
    rw [e, h2] at this
    exact absurd this he
  · exact x

/-- P ends with the word: it can be the group's first key alone. -/
theorem end_first (hS : Sorted Xs) (hL : Lvl Xs g.rg) (hG : Grp Xs g.rg g.m) (h : At Xs G P i p g) (he : wb P p = wb (key Xs g.lo) p) (hend : P.size = p + (wb P p).length) {r : Nat} (h1 : r < Xs.length) (h2 : key Xs r = P) : r = g.lo := by
  have hr := in_grp hS hL hG h he h1 h2
  rcases Nat.lt_or_ge g.lo r with x | x
  · have := (hG.long hS hL r x hr.2).2
    have e : g.rg.p = p := h.pos
    rw [e, h2] at this
    have l := wb_len P p
    omega
  · omega

theorem eq_hit (hI : Inv Xs ns G []) (hS : Sorted Xs) (h : At Xs G P i p g) (hd : ns[i]? = some d) (hk : d.kind = 1) (hm : le (wb P p) = d.wv ∧ (wb P p).length = d.ww) (hend : P.size = p + (wb P p).length) (hky : d.ky = true) :
    d.rk < Xs.length ∧ key Xs d.rk = P ∧ ∀ r, r < Xs.length → key Xs r = P → r = d.rk := by
  obtain ⟨hL, hG, w1, w2, _, w4, _, w6⟩ := eq_ok hI hd h.gh hk
  have he := (word_iff h w1 w2).1 hm
  have e : g.rg.p = p := h.pos
  have hne : g.lo < g.hi := hL.ne
  have hle : g.hi ≤ Xs.length := hL.le
  rw [w6]
  refine ⟨by omega, ?_, fun r a b => end_first hS hL hG h he hend a b⟩
  apply kb_inj
  have hsz : (key Xs g.lo).size = p + (wb (key Xs g.lo) p).length := by
    rw [hky] at w4
    have w5 : ((key Xs g.rg.lo).size == g.rg.p + (wb (key Xs g.rg.lo) g.rg.p).length) = true := w4.symm
    rw [e] at w5
    simpa [Gh.rg] using w5
  have t1 : kb Xs g.lo = (kb Xs g.lo).take p ++ wb (key Xs g.lo) p := by
    have : kb Xs g.lo = (kb Xs g.lo).take (p + 8) := by
      rw [List.take_of_length_le]
      rw [kb_len, hsz, wb_len]; omega
    rw [this, take_add8, List.take_append_of_le_length (by rw [List.length_take, kb_len]; have := (hL.size g.lo (Nat.le_refl _) hne).1; rw [e] at this; omega)]
    rw [List.take_take, Nat.min_self]
    rfl
  have t2 : P.data.toList = P.data.toList.take p ++ wb P p := by
    have : P.data.toList = P.data.toList.take (p + 8) := by
      rw [List.take_of_length_le]
      have : P.data.toList.length = P.size := rfl
      rw [this, hend, wb_len]; omega
    have l8 : p ≤ (P.data.toList.take p).length := by
      rw [List.length_take]
      have : P.data.toList.length = P.size := rfl
      have := h.le
      omega
    rw [this, take_add8, List.take_append_of_le_length l8, List.take_take, Nat.min_self]
    rfl
  rw [t1, t2, h.pre g.lo (Nat.le_refl _) hne, he]
theorem eq_miss_key (hI : Inv Xs ns G []) (hS : Sorted Xs) (h : At Xs G P i p g) (hd : ns[i]? = some d) (hk : d.kind = 1) (hm : le (wb P p) = d.wv ∧ (wb P p).length = d.ww) (hend : P.size = p + (wb P p).length) (hky : d.ky = false) :
    ∀ r, r < Xs.length → key Xs r ≠ P := by
  obtain ⟨hL, hG, w1, w2, _, w4, _, w6⟩ := eq_ok hI hd h.gh hk
  have he := (word_iff h w1 w2).1 hm
  have e : g.rg.p = p := h.pos
  intro r a b
  have hr := end_first hS hL hG h he hend a b
  rw [hky] at w4
  have w5 : ((key Xs g.rg.lo).size == g.rg.p + (wb (key Xs g.rg.lo) g.rg.p).length) = false := w4.symm
  rw [e] at w5
  have w7 : (key Xs g.lo).size ≠ p + (wb (key Xs g.lo) p).length := by simpa [Gh.rg] using w5
  rw [hr] at b
  rw [b] at w7
  exact w7 hend
theorem not_lo (h : At Xs G P i p g) (hend : ¬ P.size = p + (wb P p).length) {r : Nat} (h2 : key Xs r = P) (ho : owns Xs g.rg = true) : r ≠ g.lo := by
  intro e
  have e1 : g.rg.p = p := h.pos
  have w5 : ((key Xs g.rg.lo).size == g.rg.p + (wb (key Xs g.rg.lo) g.rg.p).length) = true := ho
  rw [e1] at w5
  have w7 : (key Xs g.lo).size = p + (wb (key Xs g.lo) p).length := by simpa [Gh.rg] using w5
  rw [← e, h2] at w7
  exact hend w7
theorem eq_in (hI : Inv Xs ns G []) (hS : Sorted Xs) (h : At Xs G P i p g) (hd : ns[i]? = some d) (hk : d.kind = 1) (hm : le (wb P p) = d.wv ∧ (wb P p).length = d.ww) (hend : ¬ P.size = p + (wb P p).length) {r : Nat} (h1 : r < Xs.length) (h2 : key Xs r = P) :
    rest Xs g.rg ≤ r ∧ r < g.m := by
  obtain ⟨hL, hG, w1, w2, _, w4, _, w6⟩ := eq_ok hI hd h.gh hk
  have he := (word_iff h w1 w2).1 hm
  have hr := in_grp hS hL hG h he h1 h2
  refine ⟨?_, hr.2⟩
  unfold rest
  split
  · rename_i ho
    have := not_lo h hend h2 ho
    show g.lo + 1 ≤ r
    omega
  · exact hr.1
theorem eq_no_child (hI : Inv Xs ns G []) (hS : Sorted Xs) (h : At Xs G P i p g) (hd : ns[i]? = some d) (hk : d.kind = 1) (hm : le (wb P p) = d.wv ∧ (wb P p).length = d.ww) (hend : ¬ P.size = p + (wb P p).length) (hc : d.ch = false) :
    ∀ r, r < Xs.length → key Xs r ≠ P := by
  intro r a b
  have := eq_in hI hS h hd hk hm hend a b
  obtain ⟨_, _, _, _, _, _, w5, _⟩ := eq_ok hI hd h.gh hk
  rw [hc] at w5
  have : ¬ rest Xs g.rg < g.m := of_decide_eq_false w5.symm
  omega
theorem eq_child (hI : Inv Xs ns G []) (hS : Sorted Xs) (h : At Xs G P i p g) (hd : ns[i]? = some d) (hk : d.kind = 1) (hm : le (wb P p) = d.wv ∧ (wb P p).length = d.ww) (hend : ¬ P.size = p + (wb P p).length) (hc : d.ch = true) :
    ∃ g', At Xs G P (i + 1) (p + 8) g' := by
  obtain ⟨hL, hG, w1, w2, _, w4, w5, w6⟩ := eq_ok hI hd h.gh hk
  have he := (word_iff h w1 w2).1 hm
  have e : g.p = p := h.pos
  rw [hc] at w5
  have hlt : rest Xs g.rg < g.m := of_decide_eq_true w5.symm
  obtain ⟨g', e1, e2⟩ := step_next hI hd h.gh (R := ⟨rest Xs g.rg, g.m, g.p + 8⟩) (by simp [nxt, hk, hc])
  have f1 : g'.lo = rest Xs g.rg := congrArg Rg.lo e2
  have f2 : g'.hi = g.m := congrArg Rg.hi e2
  have f3 : g'.p = g.p + 8 := congrArg Rg.p e2
  have l := wb_len P p
  have hle := h.le
  have hrl : g.lo ≤ rest Xs g.rg := (rest_le Xs g.rg).1
  have hmh : g.m ≤ g.hi := hG.hi
  refine ⟨g', e1, by omega, by omega, fun r a b => ?_, fun r a b => ?_⟩
  · rw [take_add8 (kb Xs r) p, take_add8 P.data.toList p, h.pre r (by omega) (by omega)]
    have s := hG.same r (by show g.lo ≤ r; omega) (by omega)
    have s' : wb (key Xs r) p = wb (key Xs g.lo) p := by rw [← e]; exact s
    have : wb (key Xs r) p = wb P p := by rw [s', he]
    exact congrArg _ this
  · have := eq_in hI hS h hd hk hm hend a b
    exact ⟨by omega, by omega⟩
theorem ne_last (hI : Inv Xs ns G []) (h : At Xs G P i p g) (hd : ns[i]? = some d) (hk : d.kind = 1) (hm : ¬ (le (wb P p) = d.wv ∧ (wb P p).length = d.ww)) (hl : d.last = true) : ∀ r, r < Xs.length → key Xs r ≠ P := by
  obtain ⟨hL, hG, w1, w2, w3, _, _, _⟩ := eq_ok hI hd h.gh hk
  rw [hl] at w3
  have hmh : g.m = g.hi := of_decide_eq_true w3.symm
  intro r a b
  have := not_grp hG h (fun e => hm ((word_iff h w1 w2).2 e)) a b
  omega
theorem ne_next (hI : Inv Xs ns G []) (h : At Xs G P i p g) (hd : ns[i]? = some d) (hk : d.kind = 1) (hm : ¬ (le (wb P p) = d.wv ∧ (wb P p).length = d.ww)) (hl : d.last = false) : i < d.tg ∧ ∃ g', At Xs G P d.tg p g' := by
  obtain ⟨hL, hG, w1, w2, w3, _, _, _⟩ := eq_ok hI hd h.gh hk
  obtain ⟨x, d', g', _, e1, e2, _⟩ := step_targ hI hd h.gh (.inr ⟨hk, hl⟩)
  have hlm : g.lo < g.m := hG.lo
  exact ⟨x, g', h.to e1 e2 h.pos (Nat.le_of_lt hlm) (Nat.le_refl _) fun r a b => not_grp hG h (fun e => hm ((word_iff h w1 w2).2 e)) a b⟩
theorem kinds (hI : Inv Xs ns G []) (hd : ns[i]? = some d) (hg : G[i]? = some g) : d.kind = 1 ∨ d.kind = 2 ∨ d.kind = 3 := by
  obtain ⟨ok, _⟩ := hI.ok i d g hd hg
  rcases ok with ⟨x, _⟩ | ⟨x, _⟩ | ⟨x, _⟩ <;> omega
end
end Go.Proofs.Qxb6001311a
