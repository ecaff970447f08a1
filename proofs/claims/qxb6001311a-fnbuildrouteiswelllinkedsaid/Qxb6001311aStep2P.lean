/- PLAIN: the three steps of the building. -/
import Derived.Test.Qxb6001311aStepP
namespace Go.Proofs.Qxb6001311a

/-- All that holds while the route is built: 'Inv', and a bound on what is still to come. -/
structure Bld (Xs : List ByteArray) (B : Nat) (ns : List Nd) (G : List Gh) (ts : List Tk) : Prop where
  inv : Inv Xs ns G ts
  bound : ns.length + 2 * meas Xs ts + elss ts ≤ B
  wid : ∀ (i : Nat) (d : Nd), ns[i]? = some d → d.ww ≤ 8

theorem wid_push {ns : List Nd} (h : ∀ (i : Nat) (d : Nd), ns[i]? = some d → d.ww ≤ 8) (fr : Int) (d : Nd) (hd : d.ww ≤ 8) : ∀ (i : Nat) (d' : Nd), (patch ns fr ++ [d])[i]? = some d' → d'.ww ≤ 8 := by
  intro i d' e
  rcases get_snoc e with e | ⟨_, rfl⟩
  · obtain ⟨d0, e0, e1⟩ := patch_get e
    have := h i d0 e0
    rcases e1 with ⟨_, rfl⟩ | ⟨_, rfl⟩ <;> exact this
  · exact hd

theorem meas_cons (Xs : List ByteArray) (t : Tk) (ts : List Tk) : meas Xs (t :: ts) = (weight Xs t.rg - 1) + meas Xs ts := by simp [meas]
theorem meas_append (Xs : List ByteArray) (a b : List Tk) : meas Xs (a ++ b) = meas Xs a + meas Xs b := by simp [meas]
theorem elss_append (a b : List Tk) : elss (a ++ b) = elss a + elss b := by simp [elss]
theorem elss_cons (t : Tk) (ts : List Tk) : elss (t :: ts) = (if t.els then 1 else 0) + elss ts := by
  unfold elss; cases h : t.els <;> simp [h]; omega

theorem len_le_meas {Xs : List ByteArray} {ts : List Tk} (h : ∀ t ∈ ts, Lvl Xs t.rg) : ts.length ≤ meas Xs ts := by
  induction ts with
  | nil => simp
  | cons t ts ih =>
    have h1 := ih (fun t ht => h t (List.mem_cons_of_mem _ ht))
    have h2 := (h t (by simp)).weight
    have h3 := (h t (by simp)).ne
    rw [meas_cons, List.length_cons]
    omega

theorem Bld.lens {Xs : List ByteArray} {B : Nat} {ns : List Nd} {G : List Gh} {ts : List Tk} (h : Bld Xs B ns G ts) : ns.length + 2 * ts.length ≤ B := by
  have := len_le_meas (fun t ht => (h.inv.task t ht).1)
  have := h.bound
  omega

/-- The LessElse node. -/
def ndEls : Nd := ⟨3, false, 0, 0, false, false, 0, 0⟩
def tkEls (t : Tk) : Tk := ⟨t.lo, t.hi, t.p, false, false, -1⟩

theorem bld_els {Xs : List ByteArray} {B : Nat} {ns : List Nd} {G : List Gh} {t : Tk} {ts : List Tk} (h : Bld Xs B ns G (t :: ts)) (he : t.els = true) :
    Bld Xs B (patch ns t.fr ++ [ndEls]) (G ++ [⟨t.lo, t.hi, t.p, 0⟩]) (tkEls t :: ts) ∧ meas Xs (tkEls t :: ts) = meas Xs (t :: ts) := by
  have hm : meas Xs (tkEls t :: ts) = meas Xs (t :: ts) := by rw [meas_cons, meas_cons]; rfl
  obtain ⟨tL, tT⟩ := h.inv.task t (by simp)
  have hc : t.chain = false := by
    rcases tT with x | ⟨_, _, _, _, _, _, _, x | x⟩
    · exact x.2.1
    · exact x.2.2
    · rw [he] at x; simp at x
  refine ⟨⟨?_, ?_, wid_push h.wid _ _ (Nat.zero_le _)⟩, hm⟩
  · have htl := h.inv.tile
    refine inv_push h.inv ndEls ⟨t.lo, t.hi, t.p, 0⟩ [tkEls t] rfl (.inr (.inl ⟨rfl, rfl⟩)) ⟨fun _ => rfl, fun e => by rw [hc] at e; cases e⟩ ?_ ?_ ?_ ?_ ?_
    · intro R hR
      refine ⟨tkEls t, ts, rfl, ?_, rfl⟩
      simp [nxt, ndEls] at hR
      exact hR
    · rintro (x | x)
      · exact absurd x (by decide)
      · exact absurd x.1 (by decide)
    · intro t1 h1
      simp at h1
      subst h1
      exact ⟨tL, .inl ⟨rfl, rfl, rfl⟩⟩
    · exact htl
    · intro x; cases x
  · have := h.bound
    rw [hm]
    rw [elss_cons] at this
    rw [elss_cons]
    simp [patch_len, he, tkEls] at this ⊢
    omega

/-- The LessThen node. -/
def ndLt (Xs : List ByteArray) (m p : Nat) : Nd := ⟨2, false, kv Xs (m - 1) p, (wb (key Xs (m - 1)) p).length, false, false, 0, 0⟩

theorem fr_none {Xs : List ByteArray} {ns : List Nd} {G : List Gh} {t : Tk} {ts : List Tk} (h : Inv Xs ns G (t :: ts)) (he : t.els = false) (hc : t.chain = false) : t.fr = -1 := by
  rcases (h.task t (by simp)).2 with x | ⟨_, _, _, _, _, _, _, x | x⟩
  · exact x.1
  · rw [he] at x; simp at x
  · rw [hc] at x; simp at x
theorem fr_lt {Xs : List ByteArray} {ns : List Nd} {G : List Gh} {t : Tk} {ts : List Tk} (h : Inv Xs ns G (t :: ts)) : t.fr = -1 ∨ ∃ f : Nat, t.fr = (f : Int) ∧ f < ns.length := by
  rcases (h.task t (by simp)).2 with x | ⟨i, d, _, x, y, _⟩
  · exact .inl x.1
  · exact .inr ⟨i, x, lt_of_get y⟩

theorem bld_lt {Xs : List ByteArray} (hS : Sorted Xs) {B : Nat} {ns : List Nd} {G : List Gh} {t : Tk} {ts : List Tk} (h : Bld Xs B ns G (t :: ts)) (he : t.els = false) (hc : t.chain = false)
    (m : Nat) (h1 : t.lo < m) (h2 : m < t.hi) (hv : kv Xs (m - 1) t.p ≠ kv Xs m t.p) :
    Bld Xs B (ns ++ [ndLt Xs m t.p]) (G ++ [⟨t.lo, t.hi, t.p, m⟩]) (⟨t.lo, m, t.p, false, false, -1⟩ :: ⟨m, t.hi, t.p, false, true, (ns.length : Int)⟩ :: ts) ∧
      meas Xs (⟨t.lo, m, t.p, false, false, -1⟩ :: ⟨m, t.hi, t.p, false, true, (ns.length : Int)⟩ :: ts) < meas Xs (t :: ts) := by
  obtain ⟨tL, _⟩ := h.inv.task t (by simp)
  have hfr := fr_none h.inv he hc
  have La : Lvl Xs ⟨t.lo, m, t.p⟩ := tL.sub t.lo m (Nat.le_refl _) h1 (Nat.le_of_lt h2)
  have Lb : Lvl Xs ⟨m, t.hi, t.p⟩ := tL.sub m t.hi (Nat.le_of_lt h1) h2 (Nat.le_refl _)
  have hw : weight Xs t.rg = weight Xs ⟨t.lo, m, t.p⟩ + weight Xs ⟨m, t.hi, t.p⟩ := weight_add Xs t.lo m t.hi t.p (Nat.le_of_lt h1) (Nat.le_of_lt h2)
  have wa := La.weight
  have wb := Lb.weight
  simp only at wa wb
  have hm : meas Xs (⟨t.lo, m, t.p, false, false, -1⟩ :: ⟨m, t.hi, t.p, false, true, (ns.length : Int)⟩ :: ts) + 1 = meas Xs (t :: ts) := by
    rw [meas_cons, meas_cons, meas_cons, hw]
    show weight Xs ⟨t.lo, m, t.p⟩ - 1 + (weight Xs ⟨m, t.hi, t.p⟩ - 1 + meas Xs ts) + 1 = _
    omega
  have hwid := wid_push h.wid (-1) (ndLt Xs m t.p) (by show (Qxb6001311a.wb (key Xs (m - 1)) t.p).length ≤ 8; rw [wb_len]; omega)
  have hpn : patch ns (-1) = ns := rfl
  rw [hpn] at hwid
  refine ⟨⟨?_, ?_, hwid⟩, by omega⟩
  · have htl := h.inv.tile
    have hp := inv_push h.inv (ndLt Xs m t.p) ⟨t.lo, t.hi, t.p, m⟩ [⟨t.lo, m, t.p, false, false, -1⟩, ⟨m, t.hi, t.p, false, true, (ns.length : Int)⟩] rfl ?_ ⟨fun e => (by rw [he] at e; cases e), fun e => (by rw [hc] at e; cases e)⟩ ?_ ?_ ?_ ?_ ?_
    · rw [hfr] at hp
      exact hp
    · refine .inl ⟨rfl, rfl, h1, h2, fun i a b => ?_, fun i a b => ?_⟩
      · exact wle_val (mono' hS tL (i := i) (j := m - 1) a (by simp only at b; omega) (by show m - 1 < t.hi; omega))
      · have x1 := wle_val (mono' hS tL (i := m - 1) (j := m) (by show t.lo ≤ m - 1; omega) (by omega) h2)
        have x2 := wle_val (mono' hS tL (i := m) (j := i) (Nat.le_of_lt h1) a b)
        show kv Xs (m - 1) t.p < kv Xs i t.p
        have x1' : kv Xs (m - 1) t.p ≤ kv Xs m t.p := x1
        have x2' : kv Xs m t.p ≤ kv Xs i t.p := x2
        omega
    · intro R hR
      refine ⟨_, _, rfl, ?_, rfl⟩
      simp [nxt, ndLt] at hR
      exact hR
    · intro _
      exact ⟨⟨m, t.hi, t.p, false, true, (ns.length : Int)⟩, by simp, rfl⟩
    · intro t1 ht
      simp at ht
      rcases ht with rfl | rfl
      · exact ⟨La, .inl ⟨rfl, rfl, rfl⟩⟩
      · exact ⟨Lb, .inr ⟨rfl, rfl, .inl ⟨rfl, rfl, rfl⟩⟩⟩
    · exact ⟨htl.1, rfl, htl.2⟩
    · intro x; cases x
  · have := h.bound
    rw [elss_cons] at this
    rw [elss_cons, elss_cons]
    simp [he] at this ⊢
    omega

/-- The equal node. -/
def ndEq (Xs : List ByteArray) (r : Rg) (m : Nat) : Nd := ⟨1, decide (m = r.hi), kv Xs r.lo r.p, (wb (key Xs r.lo) r.p).length, owns Xs r, decide (rest Xs r < m), 0, r.lo⟩
def tkUp (t : Tk) (m len : Nat) : List Tk := if m < t.hi then [⟨m, t.hi, t.p, true, false, (len : Int)⟩] else []
def tkIn (Xs : List ByteArray) (t : Tk) (m : Nat) : List Tk := if rest Xs t.rg < m then [⟨rest Xs t.rg, m, t.p + 8, false, false, -1⟩] else []

theorem bld_eq {Xs : List ByteArray} (hS : Sorted Xs) {B : Nat} {ns : List Nd} {G : List Gh} {t : Tk} {ts : List Tk} (h : Bld Xs B ns G (t :: ts)) (he : t.els = false) (m : Nat) (hG : Grp Xs t.rg m) :
    Bld Xs B (patch ns t.fr ++ [ndEq Xs t.rg m]) (G ++ [⟨t.lo, t.hi, t.p, m⟩]) (tkIn Xs t m ++ (tkUp t m ns.length ++ ts)) ∧
      meas Xs (tkIn Xs t m ++ (tkUp t m ns.length ++ ts)) < meas Xs (t :: ts) := by
  obtain ⟨tL, tT⟩ := h.inv.task t (by simp)
  have hlo : t.lo < m := hG.lo
  have hhi : m ≤ t.hi := hG.hi
  have hr := rest_le Xs t.rg
  have hr' := hG.rest_le
  have hr1 : t.lo ≤ rest Xs t.rg := hr.1
  have hr2 : rest Xs t.rg ≤ t.lo + 1 := hr.2
  have hw : weight Xs t.rg = weight Xs ⟨t.lo, m, t.p⟩ + weight Xs ⟨m, t.hi, t.p⟩ := weight_add Xs t.lo m t.hi t.p (Nat.le_of_lt hlo) hhi
  have La : Lvl Xs ⟨t.lo, m, t.p⟩ := tL.sub t.lo m (Nat.le_refl _) hlo hhi
  have wa : 2 * (m - t.lo) ≤ weight Xs ⟨t.lo, m, t.p⟩ := La.weight
  have hmu : meas Xs (tkUp t m ns.length) = weight Xs ⟨m, t.hi, t.p⟩ - 1 ∨ (m = t.hi ∧ meas Xs (tkUp t m ns.length) = 0) := by
    unfold tkUp
    split
    · left; simp [meas]; rfl
    · right; exact ⟨by omega, rfl⟩
  have hwu : m < t.hi → 2 ≤ weight Xs ⟨m, t.hi, t.p⟩ := fun hx => by
    have := (tL.sub m t.hi (Nat.le_of_lt hlo) hx (Nat.le_refl _)).weight
    simp only at this
    have e : (Tk.rg t).p = t.p := rfl
    rw [e] at this
    omega
  have hmi : meas Xs (tkIn Xs t m) + 1 ≤ weight Xs ⟨t.lo, m, t.p⟩ - 1 := by
    unfold tkIn
    split
    · rename_i hx
      have i1 := hG.inner hS tL (rest Xs t.rg) (Nat.le_refl _) hx
      have e1 : weight Xs ⟨t.lo, m, t.p⟩ = weight Xs ⟨t.lo, rest Xs t.rg, t.p⟩ + weight Xs ⟨rest Xs t.rg, m, t.p⟩ := weight_add Xs t.lo _ m t.p hr1 (Nat.le_of_lt hx)
      have e2 := weight_next Xs (rest Xs t.rg + 1) m t.p
      have e3 : weight Xs ⟨rest Xs t.rg, m, t.p⟩ = weight Xs ⟨rest Xs t.rg, rest Xs t.rg + 1, t.p⟩ + weight Xs ⟨rest Xs t.rg + 1, m, t.p⟩ := weight_add Xs _ _ m t.p (by omega) (by omega)
      have e4 : weight Xs ⟨rest Xs t.rg, m, t.p + 8⟩ = weight Xs ⟨rest Xs t.rg, rest Xs t.rg + 1, t.p + 8⟩ + weight Xs ⟨rest Xs t.rg + 1, m, t.p + 8⟩ := weight_add Xs _ _ m (t.p + 8) (by omega) (by omega)
      have c1 : weight Xs ⟨rest Xs t.rg, rest Xs t.rg + 1, t.p⟩ = (key Xs (rest Xs t.rg)).size + 2 - t.p := by simp [weight, sumf, cost]
      have c2 : weight Xs ⟨rest Xs t.rg, rest Xs t.rg + 1, t.p + 8⟩ = (key Xs (rest Xs t.rg)).size + 2 - (t.p + 8) := by simp [weight, sumf, cost]
      have i2 : t.p + 8 < (key Xs (rest Xs t.rg)).size := i1.2
      simp [meas]
      show weight Xs ⟨rest Xs t.rg, m, t.p + 8⟩ - 1 + 1 ≤ _
      omega
    · simp [meas]
      omega
  have hm : meas Xs (tkIn Xs t m ++ (tkUp t m ns.length ++ ts)) + 1 ≤ meas Xs (t :: ts) := by
    rw [meas_append, meas_append, meas_cons, hw]
    rcases hmu with a | ⟨a, b⟩
    · rcases Nat.lt_or_ge m t.hi with c | c
      · have := hwu c; omega
      · have e1 : meas Xs (tkUp t m ns.length) = 0 := by unfold tkUp; rw [if_neg (by omega)]; rfl
        omega
    · omega
  refine ⟨⟨?_, ?_, wid_push h.wid _ _ (by show (wb (key Xs t.lo) t.p).length ≤ 8; rw [wb_len]; omega)⟩, by omega⟩
  · have htl := h.inv.tile
    rw [← List.append_assoc]
    refine inv_push h.inv (ndEq Xs t.rg m) ⟨t.lo, t.hi, t.p, m⟩ (tkIn Xs t m ++ tkUp t m ns.length) rfl (.inr (.inr ⟨rfl, hG, rfl, rfl, rfl, rfl, rfl, rfl⟩)) ⟨fun e => (by rw [he] at e; cases e), fun _ => rfl⟩ ?_ ?_ ?_ ?_ ?_
    · intro R hR
      simp [nxt, ndEq] at hR
      obtain ⟨a, b⟩ := hR
      have hx : rest Xs t.rg < m := a
      refine ⟨⟨rest Xs t.rg, m, t.p + 8, false, false, -1⟩, tkUp t m ns.length ++ ts, ?_, b, rfl⟩
      unfold tkIn
      rw [if_pos hx]
      rfl
    · rintro (x | ⟨_, x⟩)
      · have x' : (1 : Int) = 2 := x
        omega
      · have x' : decide (m = t.hi) = false := x
        have hx : m < t.hi := by simp at x'; omega
        refine ⟨⟨m, t.hi, t.p, true, false, (ns.length : Int)⟩, ?_, rfl⟩
        unfold tkUp
        rw [if_pos hx]
        simp
    · intro t1 ht
      rcases List.mem_append.1 ht with ht | ht
      · unfold tkIn at ht
        split at ht
        · rename_i hx
          simp at ht; subst ht
          exact ⟨hG.lvl hS tL hx, .inl ⟨rfl, rfl, rfl⟩⟩
        · cases ht
      · unfold tkUp at ht
        split at ht
        · rename_i hx
          simp at ht; subst ht
          refine ⟨tL.sub m t.hi (Nat.le_of_lt hlo) hx (Nat.le_refl _), .inr ⟨rfl, rfl, .inr ⟨rfl, ?_, rfl, rfl⟩⟩⟩
          show decide (m = t.hi) = false
          simp; omega
        · cases ht
    · obtain ⟨hc0, hc1⟩ := htl
      have hky : (kc ns + if (ndEq Xs t.rg m).ky = true then 1 else 0) = rest Xs t.rg := by
        rw [← hc0]
        show (t.lo + if owns Xs t.rg = true then 1 else 0) = rest Xs t.rg
        unfold rest
        cases owns Xs t.rg <;> simp [Tk.rg]
      rw [hky]
      unfold tkIn tkUp
      by_cases x : rest Xs t.rg < m <;> by_cases y : m < t.hi
      · rw [if_pos x, if_pos y]; exact ⟨rfl, rfl, hc1⟩
      · rw [if_pos x, if_neg y]
        have : m = t.hi := by omega
        exact ⟨rfl, by rw [this]; exact hc1⟩
      · rw [if_neg x, if_pos y]
        have : rest Xs t.rg = m := by omega
        exact ⟨this.symm, hc1⟩
      · rw [if_neg x, if_neg y]
        have : rest Xs t.rg = t.hi := by omega
        rw [this]; exact hc1
    · intro _
      exact htl.1
  · have hb := h.bound
    have e1 : elss (tkIn Xs t m) = 0 := by unfold tkIn; split <;> rfl
    have e2 : elss (tkUp t m ns.length) = 0 := by unfold tkUp; split <;> rfl
    rw [elss_append, elss_append, e1, e2]
    rw [elss_cons] at hb
    simp [he] at hb
    simp [patch_len]
    omega
end Go.Proofs.Qxb6001311a
