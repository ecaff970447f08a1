/- Laws on buildRoute's memory, round by round. -/
import Derived.Test.Qxb6001311aMem
import Derived.Deep.LoopGhost
import Derived.Deep.DeepCutAuto
import Derived.Deep.AppendLies
import Derived.Deep.RegionHeld3
namespace Go.Proofs.Qxb6001311a
open Go.RowKit

def Built (Xs : List ByteArray) (B : Nat) (w : World) (e : Ending) (w' : World) : Prop := ∃ v ns G, e = .returned v ∧ Bld Xs B ns G [] ∧ Mem w w' v (.slice none 0 0) ns []

/-- What holds behind the els-part of a round. -/
def Mid (Xs : List ByteArray) (B gk : Nat) (w : World) (v4 : Value) (g : Nat) (t : Tk) (ts : List Tk) (v3 : Value) (wx : World) : Prop :=
  ∃ ns G fr, Bld Xs B ns G (⟨t.lo, t.hi, t.p, t.chain, false, fr⟩ :: ts) ∧ meas Xs (⟨t.lo, t.hi, t.p, t.chain, false, fr⟩ :: ts) < gk ∧ Mem w wx v3 v4 (patch ns fr) ts ∧ Box w wx v3 v4 g t

theorem Mid.under {Xs : List ByteArray} {B gk : Nat} {w wx w' : World} {v3 v4 : Value} {g : Nat} {t : Tk} {ts : List Tk} (h : Mid Xs B gk w v4 g t ts v3 wx) (hb : Below wx.heap.size wx w') : Mid Xs B gk w v4 g t ts v3 w' := by
  obtain ⟨ns, G, fr, h1, h2, h3, h4⟩ := h
  exact ⟨ns, G, fr, h1, h2, h3.under hb, h4.under hb⟩

theorem patch_none (ns : List Nd) {fr : Int} (h : fr = -1) : patch ns fr = ns := by unfold patch; rw [if_pos (by omega)]

theorem own_cap {w : World} {B e size n g c : Nat} {xs : List Value} (h : w.ownsRow B e size (.slice (some ⟨g, 0, none⟩) n c) n xs) : n ≤ c := by
  rcases h.2 with ⟨h, _⟩ | ⟨_, _, _, h, _, _, hn, _⟩
  · cases h
  · cases h; exact hn

theorem Mem.toBox {w wr : World} {v3 v4 : Value} {ns : List Nd} {ts : List Tk} (h : Mem w wr v3 v4 ns ts) (t : Tk) (o : Array Value) (ho : o = (tkCells t).toArray) :
    Mem w (wr.alloc (.cells o 64)) v3 v4 ns ts ∧ Box w (wr.alloc (.cells o 64)) v3 v4 wr.heap.size t := by
  subst ho
  have hb : Below wr.heap.size wr (wr.alloc (.cells (tkCells t).toArray 64)) := (Below.refl _ _).alloc (Nat.le_refl _) _
  have c := cells_new wr (tkCells t) 64
  refine ⟨h.under hb, h.below.size, by simp, fun e => ?_, fun e => ?_, ?_, ?_, ?_, ?_, ?_⟩
  · have := (h.nodes.lt _ e).2; omega
  · have := (h.tasks.lt _ e).2; omega
  · simpa [Addr.add_lit] using c 0 _ rfl
  · simpa [Addr.add_lit] using c 1 _ rfl
  · simpa [Addr.add_lit] using c 2 _ rfl
  · simpa [Addr.add_lit] using c 3 _ rfl
  · simpa [Addr.add_lit] using c 4 _ rfl

theorem mid_skip {Xs : List ByteArray} {B gk : Nat} {w wx : World} {v3 v4 : Value} {g : Nat} {t : Tk} {ts : List Tk} {ns : List Nd} {G : List Gh} (hb : Bld Xs B ns G (t :: ts)) (he : t.els = false) (hm : meas Xs (t :: ts) < gk)
    (hM : Mem w wx v3 v4 (patch ns t.fr) ts) (hX : Box w wx v3 v4 g t) : Mid Xs B gk w v4 g t ts v3 wx := by
  have e : (⟨t.lo, t.hi, t.p, t.chain, false, t.fr⟩ : Tk) = t := by cases t; simp at he; subst he; rfl
  exact ⟨ns, G, t.fr, by rw [e]; exact hb, by rw [e]; exact hm, hM, hX⟩
theorem mid_els {Xs : List ByteArray} {B gk : Nat} {w wx w1 : World} {v3 v4 v' : Value} {g : Nat} {t : Tk} {ts : List Tk} {ns : List Nd} {G : List Gh} {o : Obj} (hb : Bld Xs B ns G (t :: ts)) (he : t.els = true) (hm : meas Xs (t :: ts) < gk)
    (hM : Mem w wx v3 v4 (patch ns t.fr) ts) (hX : Box w wx v3 v4 g t) (hown' : w1.ownsRow w.heap.size 42 13 v' ((patch ns t.fr).length + 1) ((patch ns t.fr).flatMap ndCells ++ ndCells ndEls)) (hgrow : (wx.alloc o).grownBy w1 v3.ownBlock)
    (hloc : v'.ownBlock = v3.ownBlock ∨ v'.ownBlock = some (wx.heap.size + 1)) : Mid Xs B gk w v4 g t ts v' w1 := by
  obtain ⟨E1, E2⟩ := bld_els hb he
  have hc : t.chain = false := by
    rcases (hb.inv.task t (by simp)).2 with x | ⟨_, _, _, _, _, _, _, x | x⟩
    · exact x.2.1
    · exact x.2.2
    · rw [he] at x; simp at x
  have e : (⟨t.lo, t.hi, t.p, t.chain, false, -1⟩ : Tk) = tkEls t := by unfold tkEls; rw [hc]
  refine ⟨_, _, -1, by rw [e]; exact E1, by rw [e, E2]; exact hm, ?_, hX.pushNode hgrow hloc⟩
  show Mem w w1 v' v4 (patch _ (-1)) ts
  rw [patch_none _ rfl]
  exact hM.pushNode ndEls hown' hgrow hloc

theorem top_lvl {Xs : List ByteArray} {B : Nat} {ns : List Nd} {G : List Gh} {t : Tk} {ts : List Tk} (h : Bld Xs B ns G (t :: ts)) : Lvl Xs t.rg := (h.inv.task t List.mem_cons_self).1

theorem keep15 {W0 w' : World} {b o1 g o2 : Nat} {X Y : Value} (hb : Below W0.heap.size W0 w') (h1 : b < W0.heap.size) (h2 : g < W0.heap.size) (h : W0.cell? ⟨b, o1, none⟩ = some X ∧ W0.cell? ⟨g, o2, none⟩ = some Y) :
    w'.cell? ⟨b, o1, none⟩ = some X ∧ w'.cell? ⟨g, o2, none⟩ = some Y :=
  ⟨(hb.cell (p := ⟨b, o1, none⟩) h1).trans h.1, (hb.cell (p := ⟨g, o2, none⟩) h2).trans h.2⟩
theorem keep15a {W0 w' : World} {b o1 g o2 : Nat} {X Y : Value} {row : Option Nat} {o : Obj} (hg : (W0.alloc o).grownBy w' row) (h1 : row ≠ some b) (h2 : row ≠ some g) (h : W0.cell? ⟨b, o1, none⟩ = some X ∧ W0.cell? ⟨g, o2, none⟩ = some Y) :
    w'.cell? ⟨b, o1, none⟩ = some X ∧ w'.cell? ⟨g, o2, none⟩ = some Y := by
  have hb : Below W0.heap.size W0 (W0.alloc o) := (Below.refl _ _).alloc (Nat.le_refl _) o
  have l1 := World.block_lt_of_cell? W0 _ h.1
  have l2 := World.block_lt_of_cell? W0 _ h.2
  exact ⟨hg.cell ((hb.cell (p := ⟨b, o1, none⟩) l1).trans h.1) (fun x => h1 x.symm), hg.cell ((hb.cell (p := ⟨g, o2, none⟩) l2).trans h.2) (fun x => h2 x.symm)⟩

theorem keep_alloc {W0 : World} {b o1 g o2 : Nat} {X Y : Value} (o : Obj) (h : W0.cell? ⟨b, o1, none⟩ = some X ∧ W0.cell? ⟨g, o2, none⟩ = some Y) : (W0.alloc o).cell? ⟨b, o1, none⟩ = some X ∧ (W0.alloc o).cell? ⟨g, o2, none⟩ = some Y := by
  have hb : Below W0.heap.size W0 (W0.alloc o) := (Below.refl _ _).alloc (Nat.le_refl _) o
  exact keep15 hb (World.block_lt_of_cell? W0 _ h.1) (World.block_lt_of_cell? W0 _ h.2) h
theorem lim1 {Xs : List ByteArray} {B : Nat} {ns : List Nd} {G : List Gh} {ts : List Tk} (hB : B ≤ 16777216) (h : Bld Xs B ns G ts) : ns.length + 1 ≤ maxLen := by
  have := h.lens; unfold maxLen; omega
theorem lim2 {Xs : List ByteArray} {B : Nat} {ns : List Nd} {G : List Gh} {ts : List Tk} (hB : B ≤ 16777216) (h : Bld Xs B ns G ts) : (ns.length + 1) * 96 ≤ 140737488355328 := by
  have := h.lens; omega
theorem lim3 {w wx : World} {v3 v4 : Value} {ns : List Nd} {ts : List Tk} {o : Obj} (h : Mem w wx v3 v4 ns ts) : w.heap.size ≤ (wx.alloc o).heap.size := by have := h.below.size; simp; omega
theorem ne_b {w wx : World} {v3 v4 : Value} {ns : List Nd} {ts : List Tk} {b : Nat} (h : Mem w wx v3 v4 ns ts) (hb : b < w.heap.size) : v3.ownBlock ≠ some b := fun e => by have := (h.nodes.lt b e).1; omega

theorem loc_of {v : Value} {g c n H : Nat} (h : v.ownBlock = some g ∨ g = H) : (Value.slice (some ⟨g, 0, none⟩) n c).ownBlock = v.ownBlock ∨ (Value.slice (some ⟨g, 0, none⟩) n c).ownBlock = some H := by
  rcases h with h | h
  · exact .inl h.symm
  · exact .inr (by rw [h]; rfl)

theorem below_al (w : World) (o : Obj) : Below w.heap.size w (w.alloc o) := (Below.refl _ _).alloc (Nat.le_refl _) o
theorem keep17 {W0 w' : World} {b o1 g o2 o3 : Nat} {X Y Z : Value} (hb : Below W0.heap.size W0 w') (h1 : b < W0.heap.size) (h2 : g < W0.heap.size) (h : W0.cell? ⟨b, o1, none⟩ = some X ∧ W0.cell? ⟨g, o2, none⟩ = some Y ∧ W0.cell? ⟨g, o3, none⟩ = some Z) :
    w'.cell? ⟨b, o1, none⟩ = some X ∧ w'.cell? ⟨g, o2, none⟩ = some Y ∧ w'.cell? ⟨g, o3, none⟩ = some Z :=
  ⟨(hb.cell (p := ⟨b, o1, none⟩) h1).trans h.1, (hb.cell (p := ⟨g, o2, none⟩) h2).trans h.2.1, (hb.cell (p := ⟨g, o3, none⟩) h2).trans h.2.2⟩

theorem below17 {W w2 : World} {o : Obj} (h : Below (W.alloc o).heap.size (W.alloc o) w2) : Below W.heap.size W w2 := (below_al W o).trans (h.mono (by simp))
theorem below_set {W w2 : World} (h : Below W.heap.size W w2) (j : Nat) (u : Value) : Below W.heap.size W (w2.setCell ⟨W.heap.size, j, none⟩ u) := h.setCell (Nat.le_refl _) u

theorem box38 {W w2 : World} (h : Below (W.alloc (.cells #[.int .u64 0, .int .i64 0] 38)).heap.size (W.alloc (.cells #[.int .u64 0, .int .i64 0] 38)) w2) :
    w2.cell? ⟨W.heap.size, 0, none⟩ = some (.int .u64 0) ∧ w2.cell? ⟨W.heap.size, 1, none⟩ = some (.int .i64 0) ∧ w2.frozen? ⟨W.heap.size, 0, none⟩ = false ∧ w2.frozen? ⟨W.heap.size, 1, none⟩ = false := by
  refine ⟨?_, ?_, ?_, ?_⟩
  · rw [h.cell (p := ⟨W.heap.size, 0, none⟩) (by simp)]; simp
  · rw [h.cell (p := ⟨W.heap.size, 1, none⟩) (by simp)]; simp
  · rw [h.frozen (p := ⟨W.heap.size, 0, none⟩) (by simp)]; simp
  · rw [h.frozen (p := ⟨W.heap.size, 1, none⟩) (by simp)]; simp

/-- The word of the chain's first key, in a box of its own. -/
def Word8 (Xs : List ByteArray) (lo p : Nat) (wc : World) (s8 : Value) (wx : World) : Prop :=
  ∃ g8, s8 = .pointer (some ⟨g8, 0, none⟩) ∧ wc.heap.size ≤ g8 ∧ g8 < wx.heap.size ∧ Below wc.heap.size wc wx ∧ wx.cell? ⟨g8, 0, none⟩ = some (.int .u64 (kv Xs lo p)) ∧ wx.cell? ⟨g8, 1, none⟩ = some (.int .i64 (wb (key Xs lo) p).length)
theorem word8_a (Xs : List ByteArray) (lo p : Nat) {wc w2 : World} (h : Below wc.heap.size wc w2) :
    Word8 Xs lo p wc (.pointer (some ⟨w2.heap.size, 0, none⟩)) (w2.alloc (.cells #[.int .u64 (kv Xs lo p), .int .i64 (wb (key Xs lo) p).length] 38)) :=
  ⟨_, rfl, h.size, by simp, h.alloc h.size _, by simp, by simp⟩
theorem word8_b (Xs : List ByteArray) (lo p : Nat) {wc w2 : World} (h : Below (wc.alloc (.cells #[.int .u64 0, .int .i64 0] 38)).heap.size (wc.alloc (.cells #[.int .u64 0, .int .i64 0] 38)) w2) :
    Word8 Xs lo p wc (.pointer (some ⟨wc.heap.size, 0, none⟩)) ((w2.setCell ⟨wc.heap.size, 0, none⟩ (.int .u64 (kv Xs lo p))).setCell ⟨wc.heap.size, 1, none⟩ (.int .i64 (wb (key Xs lo) p).length)) := by
  obtain ⟨a0, a1, _, _⟩ := box38 h
  have hs := h.size
  simp at hs
  refine ⟨_, rfl, Nat.le_refl _, by simp; omega, below_set (below_set (below17 h) 0 _) 1 _, ?_, ?_⟩
  · simp [go_sem, a0]
  · simp [go_sem, a1]

structure M8 (Xs : List ByteArray) (w : World) (v3 v4 : Value) (ns : List Nd) (ts : List Tk) (g : Nat) (t : Tk) (s8 : Value) (wx : World) : Prop where
  mem : Mem w wx v3 v4 ns ts
  box : Box w wx v3 v4 g t
  wd : ∃ g8, s8 = .pointer (some ⟨g8, 0, none⟩) ∧ g8 < wx.heap.size ∧ v3.ownBlock ≠ some g8 ∧ v4.ownBlock ≠ some g8 ∧ wx.cell? ⟨g8, 0, none⟩ = some (.int .u64 (kv Xs t.lo t.p)) ∧ wx.cell? ⟨g8, 1, none⟩ = some (.int .i64 (wb (key Xs t.lo) t.p).length)
theorem m8_of {Xs : List ByteArray} {w wc wx : World} {v3 v4 s8 : Value} {ns : List Nd} {ts : List Tk} {g : Nat} {t : Tk} (hM : Mem w wc v3 v4 ns ts) (hX : Box w wc v3 v4 g t) (h : Word8 Xs t.lo t.p wc s8 wx) : M8 Xs w v3 v4 ns ts g t s8 wx := by
  obtain ⟨g8, e, h1, h2, h3, h4, h5⟩ := h
  exact ⟨hM.under h3, hX.under h3, g8, e, h2, fun x => by have := (hM.nodes.lt _ x).2; omega, fun x => by have := (hM.tasks.lt _ x).2; omega, h4, h5⟩
theorem M8.under {Xs : List ByteArray} {w wc wx : World} {v3 v4 s8 : Value} {ns : List Nd} {ts : List Tk} {g : Nat} {t : Tk} (h : M8 Xs w v3 v4 ns ts g t s8 wc) (hb : Below wc.heap.size wc wx) : M8 Xs w v3 v4 ns ts g t s8 wx := by
  obtain ⟨a, b, g8, e, h1, h2, h3, h4, h5⟩ := h
  exact ⟨a.under hb, b.under hb, g8, e, Nat.lt_of_lt_of_le h1 hb.size, h2, h3, (hb.cell (p := ⟨g8, 0, none⟩) h1).trans h4, (hb.cell (p := ⟨g8, 1, none⟩) h1).trans h5⟩
theorem keep19 {W0 w' : World} {a1 a2 a3 a4 a5 : Addr} {X1 X2 X3 X4 X5 : Value} (hb : Below W0.heap.size W0 w') (h : W0.cell? a1 = some X1 ∧ W0.cell? a2 = some X2 ∧ W0.cell? a3 = some X3 ∧ W0.cell? a4 = some X4 ∧ W0.cell? a5 = some X5) :
    w'.cell? a1 = some X1 ∧ w'.cell? a2 = some X2 ∧ w'.cell? a3 = some X3 ∧ w'.cell? a4 = some X4 ∧ w'.cell? a5 = some X5 := by
  have k : ∀ a X, W0.cell? a = some X → w'.cell? a = some X := fun a X e => (hb.cell (World.block_lt_of_cell? W0 a e)).trans e
  exact ⟨k _ _ h.1, k _ _ h.2.1, k _ _ h.2.2.1, k _ _ h.2.2.2.1, k _ _ h.2.2.2.2⟩

theorem grp_of {Xs : List ByteArray} {lo hi p m : Nat} (h1 : lo < m) (h2 : m ≤ hi) (h3 : ∀ i, lo ≤ i → i < m → wb (key Xs i) p = wb (key Xs lo) p) (h4 : false = decide (m < hi ∧ wb (key Xs m) p = wb (key Xs lo) p)) : Grp Xs ⟨lo, hi, p⟩ m := by
  refine ⟨h1, h2, h3, ?_⟩
  have := of_decide_eq_false h4.symm
  rcases Nat.lt_or_ge m hi with h | h
  · exact .inr (fun e => this ⟨h, e⟩)
  · exact .inl (Nat.le_antisymm h2 h)

theorem nd_is {Xs : List ByteArray} {lo hi p m rr : Nat} {oo : Bool} (h1 : rest Xs ⟨lo, hi, p⟩ = rr) (h2 : owns Xs ⟨lo, hi, p⟩ = oo) :
    (⟨1, (m : Int) == (hi : Int), kv Xs lo p, (wb (key Xs lo) p).length, oo, decide (rr < m), 0, lo⟩ : Nd) = ndEq Xs ⟨lo, hi, p⟩ m := by
  subst h1; subst h2
  unfold ndEq
  have e : ((m : Int) == (hi : Int)) = decide (m = hi) := by rw [Bool.eq_iff_iff]; simp; omega
  rw [e]
theorem fin_in {Xs : List ByteArray} {w wx : World} {v3 v4 : Value} {ns : List Nd} {ts L : List Tk} {lo hi p m rr len : Nat} {c : Bool} {fr : Int} {d : Nd} (h1 : rr < m) (h2 : rest Xs ⟨lo, hi, p⟩ = rr) (h3 : d = ndEq Xs ⟨lo, hi, p⟩ m)
    (h4 : L = tkUp ⟨lo, hi, p, c, false, fr⟩ m len ++ ts) (h : Mem w wx v3 v4 (ns ++ [d]) ([⟨rr, m, p + 8, false, false, -1⟩] ++ L)) :
    Mem w wx v3 v4 (ns ++ [ndEq Xs (Tk.rg ⟨lo, hi, p, c, false, fr⟩) m]) (tkIn Xs ⟨lo, hi, p, c, false, fr⟩ m ++ (tkUp ⟨lo, hi, p, c, false, fr⟩ m len ++ ts)) := by
  have e : tkIn Xs ⟨lo, hi, p, c, false, fr⟩ m = [⟨rr, m, p + 8, false, false, -1⟩] := by
    have h2' : rest Xs (Tk.rg ⟨lo, hi, p, c, false, fr⟩) = rr := h2
    unfold tkIn
    rw [h2', if_pos h1]
  rw [e, ← h4]
  have e2 : ndEq Xs (Tk.rg ⟨lo, hi, p, c, false, fr⟩) m = d := h3.symm
  rw [e2]
  exact h
theorem fin_out {Xs : List ByteArray} {w wx : World} {v3 v4 : Value} {ns : List Nd} {ts : List Tk} {lo hi p m rr len : Nat} {c : Bool} {fr : Int} {d : Nd} (h1 : ¬ rr < m) (h2 : rest Xs ⟨lo, hi, p⟩ = rr) (h3 : d = ndEq Xs ⟨lo, hi, p⟩ m)
    (h : Mem w wx v3 v4 (ns ++ [d]) (tkUp ⟨lo, hi, p, c, false, fr⟩ m len ++ ts)) :
    Mem w wx v3 v4 (ns ++ [ndEq Xs (Tk.rg ⟨lo, hi, p, c, false, fr⟩) m]) (tkIn Xs ⟨lo, hi, p, c, false, fr⟩ m ++ (tkUp ⟨lo, hi, p, c, false, fr⟩ m len ++ ts)) := by
  have e : tkIn Xs ⟨lo, hi, p, c, false, fr⟩ m = [] := by
    have h2' : rest Xs (Tk.rg ⟨lo, hi, p, c, false, fr⟩) = rr := h2
    unfold tkIn
    rw [h2', if_neg h1]
  rw [e, List.nil_append]
  have e2 : ndEq Xs (Tk.rg ⟨lo, hi, p, c, false, fr⟩) m = d := h3.symm
  rw [e2]
  exact h

theorem mem_start (w : World) (n : Nat) : Mem w (w.alloc (.cells #[.int .i64 0, .int .i64 n, .int .i64 0, .bool false, .bool false, .int .i64 (-1)] 64)) (.slice none 0 0) (.slice (some ⟨w.heap.size, 0, none⟩) 1 1) [] [⟨0, n, 0, false, false, -1⟩] := by
  refine ⟨(Below.refl _ _).alloc (Nat.le_refl _) _, World.ownsRow_nil _ _ _ _, ?_, fun k h => by simp [Value.ownBlock] at h⟩
  exact World.ownsRow_lit w #[.int .i64 0, .int .i64 n, .int .i64 0, .bool false, .bool false, .int .i64 (-1)] 1 (Nat.le_refl _) (by decide) rfl

theorem mid_box {Xs : List ByteArray} {B gk : Nat} {w wx : World} {v3 v4 : Value} {g : Nat} {t : Tk} {ts : List Tk} (h : Mid Xs B gk w v4 g t ts v3 wx) : Box w wx v3 v4 g t := by
  obtain ⟨_, _, _, _, _, _, h4⟩ := h; exact h4
end Go.Proofs.Qxb6001311a
