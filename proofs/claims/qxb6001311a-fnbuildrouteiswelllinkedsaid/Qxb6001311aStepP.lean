/- PLAIN: one step of the building keeps what holds. -/
import Derived.Test.Qxb6001311aRouteP
namespace Go.Proofs.Qxb6001311a

/-- Node f's target is set. -/
def setTg (ns : List Nd) (f v : Nat) : List Nd := ns.modify f (fun d => { d with tg := v })
def patch (ns : List Nd) (fr : Int) : List Nd := if fr < 0 then ns else setTg ns fr.toNat ns.length

theorem patch_len (ns : List Nd) (fr : Int) : (patch ns fr).length = ns.length := by
  unfold patch setTg; split <;> simp
theorem patch_ky (ns : List Nd) (fr : Int) : (patch ns fr).map (·.ky) = ns.map (·.ky) := by
  unfold patch setTg
  split
  · rfl
  · apply List.ext_getElem?
    intro j
    simp only [List.getElem?_map, List.getElem?_modify]
    cases ns[j]? with
    | none => rfl
    | some d => simp; split <;> rfl

/-- What is at place i after the patch: the same node but for its target. -/
theorem patch_get {ns : List Nd} {fr : Int} {i : Nat} {d' : Nd} (h : (patch ns fr)[i]? = some d') :
    ∃ d, ns[i]? = some d ∧ ((fr = (i : Int) ∧ d' = { d with tg := ns.length }) ∨ (fr ≠ (i : Int) ∧ d' = d)) := by
  unfold patch setTg at h
  split at h
  · rename_i h0
    exact ⟨d', h, .inr ⟨by omega, rfl⟩⟩
  · rename_i h0
    rw [List.getElem?_modify] at h
    cases e : ns[i]? with
    | none => rw [e] at h; simp at h
    | some d =>
      rw [e] at h
      simp at h
      refine ⟨d, rfl, ?_⟩
      by_cases hf : fr.toNat = i
      · rw [if_pos hf] at h
        exact .inl ⟨by omega, h.symm⟩
      · rw [if_neg hf] at h
        exact .inr ⟨by omega, h.symm⟩
theorem patch_put {ns : List Nd} (fr : Int) {i : Nat} {d : Nd} (h : ns[i]? = some d) : ∃ v, (patch ns fr)[i]? = some { d with tg := v } := by
  unfold patch setTg
  split
  · exact ⟨d.tg, h⟩
  · rw [List.getElem?_modify, h]
    simp
    split
    · exact ⟨_, rfl⟩
    · exact ⟨d.tg, rfl⟩

theorem NdOk.tg {Xs : List ByteArray} {d : Nd} {g : Gh} (h : NdOk Xs d g) (v : Nat) : NdOk Xs { d with tg := v } g := h

theorem kc_patch (ns : List Nd) (fr : Int) : kc (patch ns fr) = kc ns := by unfold kc; rw [patch_ky]
theorem kc_take_patch (ns : List Nd) (fr : Int) (d : Nd) (i : Nat) (h : i ≤ ns.length) : kc ((patch ns fr ++ [d]).take i) = kc (ns.take i) := by
  unfold kc
  rw [List.map_take, List.map_append, patch_ky, List.map_take, List.take_append_of_le_length (by simpa using h)]
theorem kc_snoc (ns : List Nd) (d : Nd) : kc (ns ++ [d]) = kc ns + if d.ky then 1 else 0 := by
  unfold kc
  rw [List.map_append, List.filter_append, List.length_append]
  cases hd : d.ky <;> simp [hd]

theorem get_snoc {α : Type} {l : List α} {a x : α} {i : Nat} (h : (l ++ [a])[i]? = some x) : l[i]? = some x ∨ (i = l.length ∧ x = a) := by
  rcases Nat.lt_or_ge i l.length with g | g
  · rw [List.getElem?_append_left g] at h; exact .inl h
  · rw [List.getElem?_append_right g] at h
    rcases e : i - l.length with _ | q
    · rw [e] at h; simp at h; exact .inr ⟨by omega, h.symm⟩
    · rw [e] at h; simp at h
theorem get_old {α : Type} {l : List α} {a x : α} {i : Nat} (h : l[i]? = some x) : (l ++ [a])[i]? = some x := by
  rw [List.getElem?_append_left (List.getElem?_eq_some_iff.1 h).1]; exact h
theorem get_new {α : Type} {l : List α} {a : α} {i : Nat} (h : i = l.length) : (l ++ [a])[i]? = some a := by subst h; simp
theorem lt_of_get {α : Type} {l : List α} {x : α} {i : Nat} (h : l[i]? = some x) : i < l.length := (List.getElem?_eq_some_iff.1 h).1

/-- One node more: the top task is worked off, the tasks 'new' lie in its stead. -/
theorem inv_push {Xs : List ByteArray} {ns : List Nd} {G : List Gh} {t : Tk} {ts' : List Tk} (hI : Inv Xs ns G (t :: ts')) (d : Nd) (g : Gh) (new : List Tk)
    (hg : g.rg = t.rg) (hd : NdOk Xs d g) (hk : (t.els = true → d.kind = 3) ∧ (t.chain = true → d.kind = 1))
    (hnext : ∀ R, nxt Xs d g = some R → ∃ t1 r1, new ++ ts' = t1 :: r1 ∧ t1.rg = R ∧ t1.fr = -1)
    (htarg : hasTg d → ∃ t1 ∈ new, t1.fr = (ns.length : Int))
    (htask : ∀ t1 ∈ new, Lvl Xs t1.rg ∧ ((t1.fr = -1 ∧ t1.chain = false ∧ t1.els = false) ∨ (t1.fr = (ns.length : Int) ∧ t1.rg = g.up ∧ ((d.kind = 2 ∧ t1.els = true ∧ t1.chain = false) ∨ (d.kind = 1 ∧ d.last = false ∧ t1.els = false ∧ t1.chain = true)))))
    (htile : Tile (kc ns + if d.ky then 1 else 0) (new ++ ts') Xs.length) (hrank : d.ky = true → d.rk = kc ns) :
    Inv Xs (patch ns t.fr ++ [d]) (G ++ [g]) (new ++ ts') := by
  have hlen := hI.len
  have hpl := patch_len ns t.fr
  obtain ⟨tL, tT⟩ := hI.task t (by simp)
  refine ⟨by simp [hlen, hpl], ?_, ?_, ?_, ?_, ?_, ?_, ?_⟩
  · intro i d' g' h1 h2
    rcases get_snoc h1 with h1 | ⟨hx, rfl⟩
    · obtain ⟨d0, e0, e1⟩ := patch_get h1
      have hi := lt_of_get e0
      rcases get_snoc h2 with h2 | ⟨h2, _⟩
      · obtain ⟨a, b⟩ := hI.ok i d0 g' e0 h2
        refine ⟨?_, b⟩
        rcases e1 with ⟨_, rfl⟩ | ⟨_, rfl⟩
        · exact a.tg _
        · exact a
      · omega
    · rcases get_snoc h2 with h2 | ⟨_, rfl⟩
      · have := lt_of_get h2; omega
      · exact ⟨hd, by rw [hg]; exact tL⟩
  · intro i d' g' R h1 h2 h3
    rcases get_snoc h1 with h1 | ⟨hx, rfl⟩
    · obtain ⟨d0, e0, e1⟩ := patch_get h1
      have hi := lt_of_get e0
      have h3' : nxt Xs d0 g' = some R := by
        rcases e1 with ⟨_, rfl⟩ | ⟨_, rfl⟩ <;> exact h3
      rcases get_snoc h2 with h2 | ⟨h2, _⟩
      · rcases hI.next i d0 g' R e0 h2 h3' with ⟨g2, a, b⟩ | ⟨a, t0, r0, b, c, _⟩
        · exact .inl ⟨g2, get_old a, b⟩
        · simp only [List.cons.injEq] at b
          exact .inl ⟨g, get_new (by omega), by rw [hg, b.1, c]⟩
      · omega
    · rcases get_snoc h2 with h2 | ⟨_, rfl⟩
      · have := lt_of_get h2; omega
      · exact .inr ⟨by simp [hx], hnext R h3⟩
  · intro i d' g' h1 h2 h3
    rcases get_snoc h1 with h1 | ⟨hx, rfl⟩
    · obtain ⟨d0, e0, e1⟩ := patch_get h1
      have hi := lt_of_get e0
      have h3' : hasTg d0 := by
        rcases e1 with ⟨_, rfl⟩ | ⟨_, rfl⟩ <;> exact h3
      rcases get_snoc h2 with h2 | ⟨h2, _⟩
      · by_cases hf : t.fr = (i : Int)
        · right
          rcases e1 with ⟨_, rfl⟩ | ⟨e1, _⟩
          · refine ⟨hi, d, g, get_new hpl.symm, get_new hlen.symm, ?_⟩
            rcases tT with ⟨x, _⟩ | ⟨i1, d1, g1, x1, x2, x3, x4, x5⟩
            · omega
            · have : i1 = i := by omega
              subst this
              rw [e0] at x2; rw [h2] at x3
              cases x2; cases x3
              refine ⟨by rw [hg, x4], ?_, ?_⟩
              · intro k2
                rcases x5 with ⟨_, b, _⟩ | ⟨b, _⟩
                · exact hk.1 b
                · have k2' : d0.kind = 2 := k2
                  omega
              · intro k1
                rcases x5 with ⟨b, _, _⟩ | ⟨_, _, _, b⟩
                · have k1' : d0.kind = 1 := k1
                  omega
                · exact hk.2 b
          · exact absurd hf e1
        · rcases e1 with ⟨e1, _⟩ | ⟨_, rfl⟩
          · exact absurd e1 hf
          · rcases hI.targ i d' g' e0 h2 h3' with ⟨t0, a, b⟩ | ⟨a, d2, g2, b, c, x, y, z⟩
            · rcases List.mem_cons.1 a with rfl | a
              · exact absurd b hf
              · exact .inl ⟨t0, List.mem_append_right _ a, b⟩
            · obtain ⟨v, hv⟩ := patch_put t.fr b
              exact .inr ⟨a, _, g2, get_old hv, get_old c, x, y, z⟩
      · omega
    · obtain ⟨t1, a, b⟩ := htarg h3
      exact .inl ⟨t1, List.mem_append_left _ a, by rw [b, hx, hpl]⟩
  · intro t1 h1
    rcases List.mem_append.1 h1 with h1 | h1
    · obtain ⟨a, b⟩ := htask t1 h1
      refine ⟨a, ?_⟩
      rcases b with b | ⟨b, c, x⟩
      · exact .inl b
      · exact .inr ⟨ns.length, d, g, b, get_new hpl.symm, get_new hlen.symm, c, x⟩
    · obtain ⟨a, b⟩ := hI.task t1 (List.mem_cons_of_mem _ h1)
      refine ⟨a, ?_⟩
      rcases b with b | ⟨i, d1, g1, b, c, x, y, z⟩
      · exact .inl b
      · obtain ⟨v, hv⟩ := patch_put t.fr c
        exact .inr ⟨i, _, g1, b, get_old hv, get_old x, y, z⟩
  · rw [kc_snoc, kc_patch]; exact htile
  · intro i d' h1 h2
    rcases get_snoc h1 with h1 | ⟨hx, rfl⟩
    · obtain ⟨d0, e0, e1⟩ := patch_get h1
      have hi := lt_of_get e0
      rw [kc_take_patch _ _ _ _ (Nat.le_of_lt hi)]
      rcases e1 with ⟨_, rfl⟩ | ⟨_, rfl⟩
      · exact hI.rank i d0 e0 h2
      · exact hI.rank i d' e0 h2
    · rw [kc_take_patch _ _ _ _ (by omega), hx, hpl, List.take_length]
      exact hrank h2
  · right
    rcases hI.head with ⟨rfl, t0, a, b⟩ | ⟨g0, a, b⟩
    · have : G = [] := List.length_eq_zero_iff.1 (by simpa using hlen)
      subst this
      simp only [List.cons.injEq] at a
      exact ⟨g, rfl, by rw [hg, a.1, b]⟩
    · exact ⟨g0, get_old a, b⟩
end Go.Proofs.Qxb6001311a
