/- PLAIN: the route being built, and what holds of it. No Go in sight. -/
import Derived.Test.Qxb6001311aOrdP
namespace Go.Proofs.Qxb6001311a

/-- The keys from lo up to m carry the word of key lo; key m does not, or is no key of the level. -/
structure Grp (Xs : List ByteArray) (r : Rg) (m : Nat) : Prop where
  lo : r.lo < m
  hi : m ≤ r.hi
  same : ∀ i, r.lo ≤ i → i < m → wb (key Xs i) r.p = wb (key Xs r.lo) r.p
  stop : m = r.hi ∨ wb (key Xs m) r.p ≠ wb (key Xs r.lo) r.p

def owns (Xs : List ByteArray) (r : Rg) : Bool := (key Xs r.lo).size == r.p + (wb (key Xs r.lo) r.p).length
def rest (Xs : List ByteArray) (r : Rg) : Nat := if owns Xs r then r.lo + 1 else r.lo

theorem Grp.after {Xs : List ByteArray} (hS : Sorted Xs) {r : Rg} (hL : Lvl Xs r) {m : Nat} (h : Grp Xs r m) (i : Nat) (h1 : m ≤ i) (h2 : i < r.hi) : wb (key Xs i) r.p ≠ wb (key Xs r.lo) r.p := by
  have hm : m < r.hi := by omega
  have hlo := h.lo
  rcases h.stop with e | e
  · omega
  · have w1 := mono' hS hL (Nat.le_refl _) (Nat.le_of_lt hlo) hm
    have w2 := mono' hS hL (Nat.le_of_lt hlo) h1 h2
    rcases w1 with w1 | w1
    · intro e2
      rcases w2 with w2 | w2
      · have := wless_trans w1 w2; rw [e2] at this; exact wless_irrefl _ this
      · rw [w2, e2] at w1; exact wless_irrefl _ w1
    · exact absurd w1.symm e

theorem Grp.long {Xs : List ByteArray} (hS : Sorted Xs) {r : Rg} (hL : Lvl Xs r) {m : Nat} (h : Grp Xs r m) (i : Nat) (h1 : r.lo < i) (h2 : i < m) : (wb (key Xs r.lo) r.p).length = 8 ∧ r.p + 8 < (key Xs i).size := by
  obtain ⟨q, rfl⟩ : ∃ q, i = q + 1 := ⟨i - 1, by omega⟩
  have hhi := h.hi
  have e1 := h.same q (by omega) (by omega)
  have e2 := h.same (q + 1) (by omega) (by omega)
  rcases adj hS hL q (by omega) (by omega) with a | ⟨_, a, b⟩
  · rw [e1, e2] at a; exact absurd a (wless_irrefl _)
  · rw [e1] at a; exact ⟨a, b⟩

theorem not_own {Xs : List ByteArray} {r : Rg} (hL : Lvl Xs r) (h : owns Xs r = false) : (wb (key Xs r.lo) r.p).length = 8 ∧ r.p + 8 < (key Xs r.lo).size := by
  have hl := wb_len (key Xs r.lo) r.p
  have hs := (hL.size r.lo (Nat.le_refl _) hL.ne).1
  unfold owns at h
  have h' : (key Xs r.lo).size ≠ r.p + (wb (key Xs r.lo) r.p).length := by simpa using h
  omega

theorem rest_le (Xs : List ByteArray) (r : Rg) : r.lo ≤ rest Xs r ∧ rest Xs r ≤ r.lo + 1 := by unfold rest; split <;> omega
theorem Grp.rest_le {Xs : List ByteArray} {r : Rg} {m : Nat} (h : Grp Xs r m) : rest Xs r ≤ m := by have := h.lo; unfold rest; split <;> omega

/-- Whoever goes on in the children goes on beyond the word. -/
theorem Grp.inner {Xs : List ByteArray} (hS : Sorted Xs) {r : Rg} (hL : Lvl Xs r) {m : Nat} (h : Grp Xs r m) (i : Nat) (h1 : rest Xs r ≤ i) (h2 : i < m) : (wb (key Xs r.lo) r.p).length = 8 ∧ r.p + 8 < (key Xs i).size := by
  have := _root_.Go.Proofs.Qxb6001311a.rest_le Xs r
  rcases Nat.lt_or_ge r.lo i with g | g
  · exact h.long hS hL i g h2
  · have hi : i = r.lo := by omega
    subst hi
    refine not_own hL ?_
    unfold rest at h1
    cases ho : owns Xs r with
    | false => rfl
    | true => rw [ho] at h1; simp at h1; omega

theorem take_add8 (l : List UInt8) (p : Nat) : l.take (p + 8) = l.take p ++ (l.drop p).take 8 := List.take_add

theorem Grp.lvl {Xs : List ByteArray} (hS : Sorted Xs) {r : Rg} (hL : Lvl Xs r) {m : Nat} (h : Grp Xs r m) (hr : rest Xs r < m) : Lvl Xs ⟨rest Xs r, m, r.p + 8⟩ := by
  have hb := _root_.Go.Proofs.Qxb6001311a.rest_le Xs r
  have hhi := h.hi
  refine ⟨hr, Nat.le_trans h.hi hL.le, by have := hL.m8; show (r.p + 8) % 8 = 0; omega, fun i a b => ?_, fun i j a b c d => ?_⟩
  · have := (h.inner hS hL i a b).2
    exact ⟨by show r.p + 8 ≤ _; omega, fun _ => this⟩
  · show (kb Xs i).take (r.p + 8) = (kb Xs j).take (r.p + 8)
    simp only at a b c d
    rw [take_add8 (kb Xs i) r.p, take_add8 (kb Xs j) r.p, hL.pre i j (by omega) (by omega) (by omega) (by omega)]
    have e1 := h.same i (by omega) b
    have e2 := h.same j (by omega) d
    have : wb (key Xs i) r.p = wb (key Xs j) r.p := by rw [e1, e2]
    exact congrArg _ this

/-- A node, as far as it is written. -/
structure Nd where
  kind : Int
  last : Bool
  wv : Nat
  ww : Nat
  ky : Bool
  ch : Bool
  tg : Nat
  rk : Nat

/-- A task. -/
structure Tk where
  lo : Nat
  hi : Nat
  p : Nat
  chain : Bool
  els : Bool
  fr : Int

def Tk.rg (t : Tk) : Rg := ⟨t.lo, t.hi, t.p⟩

/-- The ghost of a node: its range, and where it is parted. -/
structure Gh where
  lo : Nat
  hi : Nat
  p : Nat
  m : Nat

def Gh.rg (g : Gh) : Rg := ⟨g.lo, g.hi, g.p⟩
def Gh.up (g : Gh) : Rg := ⟨g.m, g.hi, g.p⟩

/-- What a node says of its range. -/
def NdOk (Xs : List ByteArray) (d : Nd) (g : Gh) : Prop :=
  (d.kind = 2 ∧ d.ky = false ∧ g.lo < g.m ∧ g.m < g.hi ∧ (∀ i, g.lo ≤ i → i < g.m → kv Xs i g.p ≤ d.wv) ∧ (∀ i, g.m ≤ i → i < g.hi → d.wv < kv Xs i g.p)) ∨
  (d.kind = 3 ∧ d.ky = false) ∨
  (d.kind = 1 ∧ Grp Xs g.rg g.m ∧ d.wv = kv Xs g.lo g.p ∧ d.ww = (wb (key Xs g.lo) g.p).length ∧ d.last = decide (g.m = g.hi) ∧ d.ky = owns Xs g.rg ∧ d.ch = decide (rest Xs g.rg < g.m) ∧ d.rk = g.lo)

/-- The range that the next node must have. -/
def nxt (Xs : List ByteArray) (d : Nd) (g : Gh) : Option Rg :=
  if d.kind = 2 then some ⟨g.lo, g.m, g.p⟩ else if d.kind = 3 then some g.rg else if d.ch then some ⟨rest Xs g.rg, g.m, g.p + 8⟩ else none

def hasTg (d : Nd) : Prop := d.kind = 2 ∨ (d.kind = 1 ∧ d.last = false)

/-- How many of them end a key. -/
def kc (ns : List Nd) : Nat := ((ns.map (·.ky)).filter id).length

def Tile : Nat → List Tk → Nat → Prop
  | c, [], n => c = n
  | c, t :: ts, n => t.lo = c ∧ Tile t.hi ts n

/-- The sum of g from lo on, over d places. -/
def sumf (g : Nat → Nat) : Nat → Nat → Nat
  | _, 0 => 0
  | lo, d + 1 => g lo + sumf g (lo + 1) d
def cost (Xs : List ByteArray) (p i : Nat) : Nat := (key Xs i).size + 2 - p
def weight (Xs : List ByteArray) (r : Rg) : Nat := sumf (cost Xs r.p) r.lo (r.hi - r.lo)
def meas (Xs : List ByteArray) (ts : List Tk) : Nat := (ts.map (fun t => weight Xs t.rg - 1)).sum
def elss (ts : List Tk) : Nat := (ts.filter (·.els)).length

structure Inv (Xs : List ByteArray) (ns : List Nd) (G : List Gh) (ts : List Tk) : Prop where
  len : G.length = ns.length
  ok : ∀ (i : Nat) (d : Nd) (g : Gh), ns[i]? = some d → G[i]? = some g → NdOk Xs d g ∧ Lvl Xs g.rg
  next : ∀ (i : Nat) (d : Nd) (g : Gh) (R : Rg), ns[i]? = some d → G[i]? = some g → nxt Xs d g = some R →
    (∃ g' : Gh, G[i + 1]? = some g' ∧ g'.rg = R) ∨ (i + 1 = ns.length ∧ ∃ t ts', ts = t :: ts' ∧ t.rg = R ∧ t.fr = -1)
  targ : ∀ (i : Nat) (d : Nd) (g : Gh), ns[i]? = some d → G[i]? = some g → hasTg d →
    (∃ t ∈ ts, t.fr = (i : Int)) ∨ (i < d.tg ∧ ∃ (d' : Nd) (g' : Gh), ns[d.tg]? = some d' ∧ G[d.tg]? = some g' ∧ g'.rg = g.up ∧ (d.kind = 2 → d'.kind = 3) ∧ (d.kind = 1 → d'.kind = 1))
  task : ∀ t ∈ ts, Lvl Xs t.rg ∧ ((t.fr = -1 ∧ t.chain = false ∧ t.els = false) ∨
    ∃ (i : Nat) (d : Nd) (g : Gh), t.fr = (i : Int) ∧ ns[i]? = some d ∧ G[i]? = some g ∧ t.rg = g.up ∧ ((d.kind = 2 ∧ t.els = true ∧ t.chain = false) ∨ (d.kind = 1 ∧ d.last = false ∧ t.els = false ∧ t.chain = true)))
  tile : Tile (kc ns) ts Xs.length
  rank : ∀ (i : Nat) (d : Nd), ns[i]? = some d → d.ky = true → d.rk = kc (ns.take i)
  head : (ns = [] ∧ ∃ t, ts = [t] ∧ t.rg = ⟨0, Xs.length, 0⟩) ∨ ∃ g : Gh, G[0]? = some g ∧ g.rg = ⟨0, Xs.length, 0⟩

/-! ### sums -/
theorem sumf_add (g : Nat → Nat) : ∀ lo a b, sumf g lo (a + b) = sumf g lo a + sumf g (lo + a) b
  | lo, 0, b => by simp [sumf]
  | lo, a + 1, b => by
    rw [show a + 1 + b = (a + b) + 1 by omega]
    simp only [sumf]
    rw [sumf_add g (lo + 1) a b, show lo + 1 + a = lo + (a + 1) by omega]
    omega
theorem sumf_ge (g : Nat → Nat) (c : Nat) : ∀ lo d, (∀ i, lo ≤ i → i < lo + d → c ≤ g i) → c * d ≤ sumf g lo d
  | lo, 0, _ => by simp [sumf]
  | lo, d + 1, h => by
    have h1 := h lo (Nat.le_refl _) (by omega)
    have h2 := sumf_ge g c (lo + 1) d (fun i a b => h i (by omega) (by omega))
    simp only [sumf, Nat.mul_add, Nat.mul_one]
    omega
theorem sumf_le (g k : Nat → Nat) : ∀ lo d, (∀ i, lo ≤ i → i < lo + d → g i ≤ k i) → sumf g lo d ≤ sumf k lo d
  | lo, 0, _ => by simp [sumf]
  | lo, d + 1, h => by
    have h1 := h lo (Nat.le_refl _) (by omega)
    have h2 := sumf_le g k (lo + 1) d (fun i a b => h i (by omega) (by omega))
    simp only [sumf]
    omega

theorem weight_add (Xs : List ByteArray) (a b c p : Nat) (h1 : a ≤ b) (h2 : b ≤ c) : weight Xs ⟨a, c, p⟩ = weight Xs ⟨a, b, p⟩ + weight Xs ⟨b, c, p⟩ := by
  show sumf (cost Xs p) a (c - a) = sumf (cost Xs p) a (b - a) + sumf (cost Xs p) b (c - b)
  rw [show c - a = (b - a) + (c - b) by omega, sumf_add, show a + (b - a) = b by omega]
theorem weight_ge (Xs : List ByteArray) (a b p : Nat) (h : ∀ i, a ≤ i → i < b → p ≤ (key Xs i).size) : 2 * (b - a) ≤ weight Xs ⟨a, b, p⟩ :=
  sumf_ge _ 2 a (b - a) (fun i x y => by have := h i x (by omega); show 2 ≤ (key Xs i).size + 2 - p; omega)
theorem weight_next (Xs : List ByteArray) (a b p : Nat) : weight Xs ⟨a, b, p + 8⟩ ≤ weight Xs ⟨a, b, p⟩ :=
  sumf_le _ _ a (b - a) (fun i _ _ => by show (key Xs i).size + 2 - (p + 8) ≤ (key Xs i).size + 2 - p; omega)
theorem Lvl.weight {Xs : List ByteArray} {r : Rg} (h : Lvl Xs r) : 2 * (r.hi - r.lo) ≤ weight Xs r := weight_ge Xs r.lo r.hi r.p (fun i a b => (h.size i a b).1)
end Go.Proofs.Qxb6001311a
