/- Nodes and tasks as cells; what buildRoute's memory holds. -/
import Derived.Test.Qxb6001311aSplit
import Derived.Test.Qxb6001311aStep2P
import Derived.Maps.AppendAt
namespace Go.Proofs.Qxb6001311a
open Go.RowKit

def ndCells (d : Nd) : List Value := [.int .i64 d.kind, .bool d.last, .int .u64 d.wv, .int .i64 d.ww, .bool d.ky, .bool d.ch, .int .i64 0, .int .i64 0, .int .u8 0, .int .i64 0, .int .i64 0, .int .i64 d.tg, .int .i64 d.rk]
def tkCells (t : Tk) : List Value := [.int .i64 t.lo, .int .i64 t.hi, .int .i64 t.p, .bool t.chain, .bool t.els, .int .i64 t.fr]

theorem flat_len {α : Type} (f : α → List Value) (c : Nat) (hc : ∀ a, (f a).length = c) (l : List α) : (l.flatMap f).length = l.length * c := by
  induction l with
  | nil => simp
  | cons a l ih => rw [List.flatMap_cons, List.length_append, hc, ih, List.length_cons, Nat.add_mul]; omega
theorem flat_get {α : Type} (f : α → List Value) (c : Nat) (hc : ∀ a, (f a).length = c) : ∀ (l : List α) (i j : Nat) (a : α), l[i]? = some a → j < c → (l.flatMap f)[i * c + j]? = (f a)[j]?
  | [], i, j, a, h, _ => by simp at h
  | b :: l, 0, j, a, h, hj => by
    simp at h; subst h
    rw [List.flatMap_cons, Nat.zero_mul, Nat.zero_add, List.getElem?_append_left (by rw [hc]; exact hj)]
  | b :: l, i + 1, j, a, h, hj => by
    rw [List.flatMap_cons, List.getElem?_append_right (by rw [hc, Nat.add_mul]; omega), hc, show (i + 1) * c + j - c = i * c + j by rw [Nat.add_mul]; omega]
    exact flat_get f c hc l i j a (by simpa using h) hj
theorem flat_set {α : Type} (f : α → List Value) (c : Nat) (hc : ∀ a, (f a).length = c) (g : α → α) (v : Value) (j : Nat) (hj : j < c) (hg : ∀ a, f (g a) = (f a).set j v) : ∀ (l : List α) (i : Nat), (l.flatMap f).set (i * c + j) v = (l.modify i g).flatMap f
  | [], i => by simp
  | b :: l, 0 => by
    rw [List.modify_zero_cons, List.flatMap_cons, List.flatMap_cons, Nat.zero_mul, Nat.zero_add, List.set_append_left _ _ (by rw [hc]; exact hj), hg]
  | b :: l, i + 1 => by
    rw [List.modify_succ_cons, List.flatMap_cons, List.flatMap_cons, List.set_append_right _ _ (by rw [hc, Nat.add_mul]; omega), hc, show (i + 1) * c + j - c = i * c + j by rw [Nat.add_mul]; omega, flat_set f c hc g v j hj hg l i]
theorem nd_len (d : Nd) : (ndCells d).length = 13 := rfl
theorem tk_len (t : Tk) : (tkCells t).length = 6 := rfl

/-- Of buildRoute's memory: the nodes' row, the tasks' row, apart from each other; all else below as it was. -/
structure Mem (w wr : World) (v3 v4 : Value) (ns : List Nd) (ts : List Tk) : Prop where
  below : Below w.heap.size w wr
  nodes : wr.ownsRow w.heap.size 42 13 v3 ns.length (ns.flatMap ndCells)
  tasks : wr.ownsRow w.heap.size 64 6 v4 ts.length (ts.reverse.flatMap tkCells)
  apart : ∀ k, v3.ownBlock = some k → v4.ownBlock = some k → False

theorem Mem.under {w wr w' : World} {v3 v4 : Value} {ns : List Nd} {ts : List Tk} (h : Mem w wr v3 v4 ns ts) (hb : Below wr.heap.size wr w') : Mem w w' v3 v4 ns ts :=
  ⟨h.below.trans (hb.mono h.below.size), own_below h.nodes hb, own_below h.tasks hb, h.apart⟩

/-- The task at hand lies in a box of its own. -/
structure Box (w wr : World) (v3 v4 : Value) (g : Nat) (t : Tk) : Prop where
  ge : w.heap.size ≤ g
  lt : g < wr.heap.size
  ne3 : v3.ownBlock ≠ some g
  ne4 : v4.ownBlock ≠ some g
  lo : wr.cell? ⟨g, 0, none⟩ = some (.int .i64 t.lo)
  hi : wr.cell? ⟨g, 1, none⟩ = some (.int .i64 t.hi)
  p : wr.cell? ⟨g, 2, none⟩ = some (.int .i64 t.p)
  chain : wr.cell? ⟨g, 3, none⟩ = some (.bool t.chain)
  els : wr.cell? ⟨g, 4, none⟩ = some (.bool t.els)

theorem Box.under {w wr w' : World} {v3 v4 : Value} {g : Nat} {t : Tk} (h : Box w wr v3 v4 g t) (hb : Below wr.heap.size wr w') : Box w w' v3 v4 g t :=
  ⟨h.ge, Nat.lt_of_lt_of_le h.lt hb.size, h.ne3, h.ne4, (hb.cell (p := ⟨g, 0, none⟩) h.lt).trans h.lo, (hb.cell (p := ⟨g, 1, none⟩) h.lt).trans h.hi, (hb.cell (p := ⟨g, 2, none⟩) h.lt).trans h.p, (hb.cell (p := ⟨g, 3, none⟩) h.lt).trans h.chain, (hb.cell (p := ⟨g, 4, none⟩) h.lt).trans h.els⟩
theorem Box.grown {w wr w' : World} {v3 v4 v3' v4' : Value} {g : Nat} {t : Tk} {row : Option Nat} (h : Box w wr v3 v4 g t) (hg : wr.grownBy w' row) (hr : row ≠ some g) (h3 : v3'.ownBlock ≠ some g) (h4 : v4'.ownBlock ≠ some g) : Box w w' v3' v4' g t := by
  have hc : ∀ o v, wr.cell? ⟨g, o, none⟩ = some v → w'.cell? ⟨g, o, none⟩ = some v := fun o v e => hg.cell e (fun x => hr x.symm)
  exact ⟨h.ge, Nat.lt_of_lt_of_le h.lt hg.size, h3, h4, hc _ _ h.lo, hc _ _ h.hi, hc _ _ h.p, hc _ _ h.chain, hc _ _ h.els⟩

theorem cells_new (w : World) (l : List Value) (t : TypeId) : ∀ (j : Nat) (u : Value), l[j]? = some u → (w.alloc (.cells l.toArray t)).cell? ((⟨w.heap.size, 0, none⟩ : Addr).add j) = some u := by
  intro j u h
  rw [Addr.add_lit, Nat.zero_add, World.cell?_alloc_mark]
  simpa using h

theorem nd_one (d : Nd) : ∀ u ∈ ndCells d, u.oneCell' = true := by
  intro u hu
  simp [ndCells] at hu
  rcases hu with rfl | rfl | rfl | rfl | rfl | rfl | rfl | rfl | rfl | rfl | rfl <;> rfl
theorem tk_one (t : Tk) : ∀ u ∈ tkCells t, u.oneCell' = true := by
  intro u hu
  simp [tkCells] at hu
  rcases hu with rfl | rfl | rfl | rfl | rfl | rfl <;> rfl

section
variable {w wx w1 : World} {v3 v4 v' : Value} {ns : List Nd} {ts : List Tk} {o : Obj}

theorem Mem.pushNode (h : Mem w wx v3 v4 ns ts) (d : Nd) (hown' : w1.ownsRow w.heap.size 42 13 v' (ns.length + 1) (ns.flatMap ndCells ++ ndCells d)) (hgrow : (wx.alloc o).grownBy w1 v3.ownBlock)
    (hloc : v'.ownBlock = v3.ownBlock ∨ v'.ownBlock = some (wx.heap.size + 1)) : Mem w w1 v' v4 (ns ++ [d]) ts := by
  refine ⟨(h.below.alloc h.below.size o).grown hgrow (by have := h.below.size; simp; omega) (fun k hk => (h.nodes.lt k hk).1), by simpa using hown', (h.tasks.alloc o).kept hgrow ?_, ?_⟩
  · cases e : v4.ownBlock with
    | none => exact .inl rfl
    | some k => exact .inr (fun x => h.apart k x.symm e)
  · intro k h3 h4
    rcases hloc with e | e
    · exact h.apart k (e.symm.trans h3) h4
    · rw [e] at h3
      have := (h.tasks.lt k h4).2
      simp at h3
      omega
theorem Box.pushNode {g : Nat} {t : Tk} (h : Box w wx v3 v4 g t) (hgrow : (wx.alloc o).grownBy w1 v3.ownBlock)
    (hloc : v'.ownBlock = v3.ownBlock ∨ v'.ownBlock = some (wx.heap.size + 1)) : Box w w1 v' v4 g t := by
  refine (h.under ((Below.refl _ _).alloc (Nat.le_refl _) o)).grown hgrow h.ne3 ?_ h.ne4
  rcases hloc with e | e
  · rw [e]; exact h.ne3
  · rw [e]; intro x; have := h.lt; simp at x; omega

theorem Mem.pushTasks (h : Mem w wx v3 v4 ns ts) (new : List Tk) (hown' : w1.ownsRow w.heap.size 64 6 v' (ts.length + new.length) (ts.reverse.flatMap tkCells ++ new.reverse.flatMap tkCells)) (hgrow : (wx.alloc o).grownBy w1 v4.ownBlock)
    (hloc : v'.ownBlock = v4.ownBlock ∨ v'.ownBlock = some (wx.heap.size + 1)) : Mem w w1 v3 v' ns (new ++ ts) := by
  refine ⟨(h.below.alloc h.below.size o).grown hgrow (by have := h.below.size; simp; omega) (fun k hk => (h.tasks.lt k hk).1), (h.nodes.alloc o).kept hgrow ?_, ?_, ?_⟩
  · cases e : v3.ownBlock with
    | none => exact .inl rfl
    | some k => exact .inr (fun x => h.apart k e x.symm)
  · rw [List.reverse_append, List.flatMap_append, List.length_append, Nat.add_comm new.length]; exact hown'
  · intro k h3 h4
    rcases hloc with e | e
    · exact h.apart k h3 (e.symm.trans h4)
    · rw [e] at h4
      have := (h.nodes.lt k h3).2
      simp at h4
      omega
theorem Box.pushTasks {g : Nat} {t : Tk} (h : Box w wx v3 v4 g t) (hgrow : (wx.alloc o).grownBy w1 v4.ownBlock)
    (hloc : v'.ownBlock = v4.ownBlock ∨ v'.ownBlock = some (wx.heap.size + 1)) : Box w w1 v3 v' g t := by
  refine (h.under ((Below.refl _ _).alloc (Nat.le_refl _) o)).grown hgrow h.ne4 h.ne3 ?_
  rcases hloc with e | e
  · rw [e]; exact h.ne4
  · rw [e]; intro x; have := h.lt; simp at x; omega

theorem Mem.patch {g3 c3 f : Nat} (h : Mem w wx (.slice (some ⟨g3, 0, none⟩) ns.length c3) v4 ns ts) :
    Mem w (wx.setCell ⟨g3, f * 13 + 11, none⟩ (.int .i64 (ns.length : Nat))) (.slice (some ⟨g3, 0, none⟩) ns.length c3) v4 (patch ns (f : Int)) ts := by
  have hlt := h.nodes.lt g3 rfl
  obtain ⟨s1, s2⟩ := h.nodes.stored (f * 13 + 11) (.int .i64 (ns.length : Nat))
  refine ⟨h.below.setCell hlt.1 _, ?_, h.tasks.kept s2 ?_, h.apart⟩
  · rw [patch_len]
    have e : Qxb6001311a.patch ns (f : Int) = ns.modify f (fun d => { d with tg := ns.length }) := by
      unfold Qxb6001311a.patch setTg; rw [if_neg (by omega)]; rfl
    rw [e, ← flat_set ndCells 13 nd_len (fun d => { d with tg := ns.length }) (.int .i64 (ns.length : Nat)) 11 (by decide) (fun d => rfl) ns f]
    exact s1
  · cases e : v4.ownBlock with
    | none => exact .inl rfl
    | some k => exact .inr (fun x => h.apart k x.symm e)
theorem Box.patch {g3 n c3 g j : Nat} {u : Value} {t : Tk} (h : Box w wx (.slice (some ⟨g3, 0, none⟩) n c3) v4 g t) : Box w (wx.setCell ⟨g3, j, none⟩ u) (.slice (some ⟨g3, 0, none⟩) n c3) v4 g t := by
  have hne : g3 ≠ g := fun e => h.ne3 (by rw [e]; rfl)
  have hc : ∀ o v, wx.cell? ⟨g, o, none⟩ = some v → (wx.setCell ⟨g3, j, none⟩ u).cell? ⟨g, o, none⟩ = some v := fun o v e => by
    rw [World.cell?_of_block (w := wx) (Below.heap_setCell wx ⟨g3, j, none⟩ u g (fun x => hne x.symm))]; exact e
  exact ⟨h.ge, by simpa using h.lt, h.ne3, h.ne4, hc _ _ h.lo, hc _ _ h.hi, hc _ _ h.p, hc _ _ h.chain, hc _ _ h.els⟩

/-- The top task's cells. -/
theorem Mem.top {g4 c4 : Nat} {t : Tk} (h : Mem w wx v3 (.slice (some ⟨g4, 0, none⟩) (t :: ts).length c4) ns (t :: ts)) (j : Nat) (hj : j < 6) : wx.cell? ⟨g4, ts.length * 6 + j, none⟩ = (tkCells t)[j]? := by
  rw [h.tasks.cellAt (ts.length * 6 + j) (by simp; omega)]
  exact flat_get tkCells 6 tk_len (t :: ts).reverse ts.length j t (by simp) hj
theorem Mem.pop {g4 c4 : Nat} {t : Tk} (h : Mem w wx v3 (.slice (some ⟨g4, 0, none⟩) (t :: ts).length c4) ns (t :: ts)) : Mem w wx v3 (.slice (some ⟨g4, 0, none⟩) ts.length c4) ns ts := by
  refine ⟨h.below, h.nodes, ?_, h.apart⟩
  have ht := h.tasks
  rw [List.reverse_cons, List.flatMap_append] at ht
  exact ownsRow_pop (by rw [flat_len tkCells 6 tk_len]; simp) ht
end

theorem info42 : (Try.prog.info? 42).map (fun i => (i.zero, i.size, i.bytes)) = some (some (.agg (ndCells ⟨0, false, 0, 0, false, false, 0, 0⟩).toArray), 13, 96) := by kernel_rfl
theorem info64 : (Try.prog.info? 64).map (fun i => (i.zero, i.size, i.bytes)) = some (some (.agg (tkCells ⟨0, 0, 0, false, false, 0⟩).toArray), 6, 40) := by kernel_rfl
end Go.Proofs.Qxb6001311a
