/- The walks of the readers: ZZFields, zzWalk. -/
import Derived.Test.Qxb6001311aMem
import Derived.Test.Qxb6001311aWalkP
import Derived.Deep.LoopGhost
namespace Go.Proofs.Qxb6001311a
open Go.RowKit

set_option maxHeartbeats 400000 in
theorem fields_any (k : Int) (l ky ch : Bool) (wv ww tg rk : Int) (w : World) :
    Calls Try.prog 18 #[.agg #[.int .i64 k, .bool l, .int .u64 wv, .int .i64 ww, .bool ky, .bool ch, .int .i64 0, .int .i64 0, .int .u8 0, .int .i64 0, .int .i64 0, .int .i64 tg, .int .i64 rk]] w fun e w' =>
      e = .returned (.agg #[.int .i64 k, .bool l, .bool ky, .bool ch, .int .u64 wv, .int .i64 ww, .int .i64 tg, .int .i64 rk]) ∧ ∃ c1 c2 : Array Value, w' = (w.alloc (.cells c1 42)).alloc (.cells c2 34) := by
  go_enter Try.func18, Try.ntmps18
  go_wp2
  simp [bodyPost, results, Try.results18, go_sem]
  exact ⟨_, _, rfl⟩

/-- The nodes lie in block g from its first cell on. -/
structure NdsAt (w : World) (g : Nat) (ns : List Nd) : Prop where
  lt : g < w.heap.size
  cell : ∀ (i : Nat) (d : Nd) (j : Nat), ns[i]? = some d → j < 13 → w.cell? ⟨g, i * 13 + j, none⟩ = (ndCells d)[j]?

theorem NdsAt.below {w w' : World} {g : Nat} {ns : List Nd} (h : NdsAt w g ns) (hb : Below w.heap.size w w') : NdsAt w' g ns :=
  ⟨Nat.lt_of_lt_of_le h.lt hb.size, fun i d j a b => (hb.cell (p := ⟨g, i * 13 + j, none⟩) h.lt).trans (h.cell i d j a b)⟩
theorem ndsAt_of {w : World} {B g cap : Nat} {ns : List Nd} (h : w.ownsRow B 42 13 (.slice (some ⟨g, 0, none⟩) ns.length cap) ns.length (ns.flatMap ndCells)) : NdsAt w g ns :=
  ⟨(h.lt g rfl).2, fun i d j a b => by
    have hi := lt_of_get a
    rw [h.cellAt (i * 13 + j) (by omega)]
    exact flat_get ndCells 13 nd_len ns i j d a b⟩

theorem below3 {w wr : World} {a b c : Obj} (h : Below w.heap.size w wr) : Below w.heap.size w (((wr.alloc a).alloc b).alloc c) :=
  ((h.alloc h.size a).alloc (by have := h.size; simp; omega) b).alloc (by have := h.size; simp; omega) c

/-- What zzWalk answers. -/
def WalkRes (Xs : List ByteArray) (P : ByteArray) (e : Ending) : Prop :=
  (∃ r : Nat, e = .returned (.tuple #[.int .i64 r, .bool true]) ∧ r < Xs.length ∧ key Xs r = P ∧ ∀ r', r' < Xs.length → key Xs r' = P → r' = r) ∨
  (e = .returned (.tuple #[.int .i64 0, .bool false]) ∧ ∀ r, r < Xs.length → key Xs r ≠ P)

set_option maxRecDepth 100000 in
set_option maxHeartbeats 1000000 in
theorem walk_any (g cap : Nat) (Xs : List ByteArray) (P : ByteArray) (ns : List Nd) (G : List Gh) (w : World) (hN : NdsAt w g ns) (hI : Inv Xs ns G []) (hS : Sorted Xs) (hP : P.size ≤ 1048576) (hl : ns.length ≤ 16777216) :
    Calls Try.prog 15 #[.slice (some ⟨g, 0, none⟩) ns.length cap, .string P] w fun e w' => WalkRes Xs P e ∧ Below w.heap.size w w' := by
  have HI : Hid (Inv Xs ns G []) := hI
  go_enter Try.func15, Try.ntmps15
  go_wp2
  go_loopg [6, 7] ns.length (fun gk s6 s7 wr => ∃ (i p : Nat) (gh : Gh), s6 = .int .i64 i ∧ s7 = .int .i64 p ∧ gk + i = ns.length ∧ Below w.heap.size w wr ∧ Hid (At Xs G P i p gh))
  case atStart =>
    obtain ⟨gh, h⟩ := at_start hI P
    exact ⟨0, 0, gh, rfl, rfl, by omega, Below.refl _ _, h⟩
  case round =>
    obtain ⟨i, p, gh, rfl, rfl, hgk, hb, HA⟩ := hrel
    have hi := HA.out.lt hI
    have hp := HA.out.le
    obtain ⟨d, hd⟩ : ∃ d, ns[i]? = some d := ⟨ns[i], List.getElem?_eq_getElem hi⟩
    have hii : (i : Int) < (ns.length : Int) := by omega
    have hNr := hN.below hb
    obtain ⟨k, l, wv, ww, ky, ch, tg, rk⟩ := d
    have c0 : wr.cell? ⟨g, i * 13, none⟩ = some (.int .i64 k) := hNr.cell i _ 0 hd (by decide)
    have c1 : wr.cell? ⟨g, i * 13 + 1, none⟩ = some (.bool l) := hNr.cell i _ 1 hd (by decide)
    have c2 : wr.cell? ⟨g, i * 13 + 2, none⟩ = some (.int .u64 wv) := hNr.cell i _ 2 hd (by decide)
    have c3 : wr.cell? ⟨g, i * 13 + 3, none⟩ = some (.int .i64 ww) := hNr.cell i _ 3 hd (by decide)
    have c4 : wr.cell? ⟨g, i * 13 + 4, none⟩ = some (.bool ky) := hNr.cell i _ 4 hd (by decide)
    have c5 : wr.cell? ⟨g, i * 13 + 5, none⟩ = some (.bool ch) := hNr.cell i _ 5 hd (by decide)
    have c6 : wr.cell? ⟨g, i * 13 + 6, none⟩ = some (.int .i64 0) := hNr.cell i _ 6 hd (by decide)
    have c7 : wr.cell? ⟨g, i * 13 + 7, none⟩ = some (.int .i64 0) := hNr.cell i _ 7 hd (by decide)
    have c8 : wr.cell? ⟨g, i * 13 + 8, none⟩ = some (.int .u8 0) := hNr.cell i _ 8 hd (by decide)
    have c9 : wr.cell? ⟨g, i * 13 + 9, none⟩ = some (.int .i64 0) := hNr.cell i _ 9 hd (by decide)
    have c10 : wr.cell? ⟨g, i * 13 + 10, none⟩ = some (.int .i64 0) := hNr.cell i _ 10 hd (by decide)
    have c11 : wr.cell? ⟨g, i * 13 + 11, none⟩ = some (.int .i64 tg) := hNr.cell i _ 11 hd (by decide)
    have c12 : wr.cell? ⟨g, i * 13 + 12, none⟩ = some (.int .i64 rk) := hNr.cell i _ 12 hd (by decide)
    have HD : Hid (ns[i]? = some ⟨k, l, wv, ww, ky, ch, tg, rk⟩) := hd
    have hkk := kinds hI hd HA.out.gh
    clear hd hI hNr
    have hw8 : (wb P p).length ≤ 8 := by have := wb_len P p; omega
    rcases hkk with hk | hk | hk
    · change k = 1 at hk
      subst hk
      by_cases hm : le (wb P p) = wv ∧ (wb P p).length = ww
      · have m1 : ((le (wb P p) : Int) == (wv : Int)) = true := by simp; omega
        have m2 : (((wb P p).length : Int) == (ww : Int)) = true := by simp; omega
        by_cases hend : P.size = p + (wb P p).length
        · have m3 : ((P.size : Int) == (p : Int) + ((wb P p).length : Int)) = true := by simp; omega
          have m4 : P.size ≤ p + (wb P p).length := by omega
          have m5 : p + (wb P p).length ≤ P.size := by omega
          have HE : Hid (P.size = p + (wb P p).length) := hend
          have HMM : Hid (le (wb P p) = wv ∧ (wb P p).length = ww) := hm
          clear hend hm
          cases ky
          · go_wp2_with (first | (go_at_call 18; refine (fields_any _ _ _ _ _ _ _ _ _).mono ?_; rintro e w' ⟨rfl, o1, o2, rfl⟩) | (go_at_call 29; refine (zzWord_in P p _ (by unfold maxLen; omega) hp).mono ?_; rintro e w' ⟨rfl, rfl⟩))
            go_ret2
            exact ⟨.inr ⟨rfl, eq_miss_key HI.out hS HA.out HD.out rfl HMM.out HE.out rfl⟩, below3 hb⟩
          · go_wp2_with (first | (go_at_call 18; refine (fields_any _ _ _ _ _ _ _ _ _).mono ?_; rintro e w' ⟨rfl, o1, o2, rfl⟩) | (go_at_call 29; refine (zzWord_in P p _ (by unfold maxLen; omega) hp).mono ?_; rintro e w' ⟨rfl, rfl⟩))
            go_ret2
            exact ⟨.inl ⟨rk, rfl, eq_hit HI.out hS HA.out HD.out rfl HMM.out HE.out rfl⟩, below3 hb⟩
        · have m3 : ((P.size : Int) == (p : Int) + ((wb P p).length : Int)) = false := by simp; omega
          have m4 : p + (wb P p).length < P.size := by have := wb_len P p; omega
          have HE : Hid (¬ P.size = p + (wb P p).length) := hend
          have HMM : Hid (le (wb P p) = wv ∧ (wb P p).length = ww) := hm
          clear hend hm
          cases ch
          · go_wp2_with (first | (go_at_call 18; refine (fields_any _ _ _ _ _ _ _ _ _).mono ?_; rintro e w' ⟨rfl, o1, o2, rfl⟩) | (go_at_call 29; refine (zzWord_in P p _ (by unfold maxLen; omega) hp).mono ?_; rintro e w' ⟨rfl, rfl⟩))
            go_ret2
            exact ⟨.inr ⟨rfl, eq_no_child HI.out hS HA.out HD.out rfl HMM.out HE.out rfl⟩, below3 hb⟩
          · obtain ⟨g', hg'⟩ := eq_child HI.out hS HA.out HD.out rfl HMM.out HE.out rfl
            go_wp2_with (first | (go_at_call 18; refine (fields_any _ _ _ _ _ _ _ _ _).mono ?_; rintro e w' ⟨rfl, o1, o2, rfl⟩) | (go_at_call 29; refine (zzWord_in P p _ (by unfold maxLen; omega) hp).mono ?_; rintro e w' ⟨rfl, rfl⟩))
            go_roundg (ns.length - (i + 1))
            case measure => omega
            case rel => exact ⟨(i + 1), (p + 8), g', i64_eq (by omega), i64_eq (by omega), by omega, below3 hb, hg'⟩
      · have HMM : Hid (¬ (le (wb P p) = wv ∧ (wb P p).length = ww)) := hm
        cases l
        · obtain ⟨ht, g', hg'⟩ := ne_next HI.out HA.out HD.out rfl HMM.out rfl
          change i < tg at ht
          have htl := hg'.lt HI.out
          change tg < ns.length at htl
          have ht' : ¬ tg ≤ i := by omega
          have ht2 : decide (tg ≤ i) = false := by simp; omega
          by_cases hv : le (wb P p) = wv
          · have m1 : ((le (wb P p) : Int) == (wv : Int)) = true := by simp; omega
            have m2 : (((wb P p).length : Int) == (ww : Int)) = false := by simp; omega
            clear hm hv
            go_wp2_with (first | (go_at_call 18; refine (fields_any _ _ _ _ _ _ _ _ _).mono ?_; rintro e w' ⟨rfl, o1, o2, rfl⟩) | (go_at_call 29; refine (zzWord_in P p _ (by unfold maxLen; omega) hp).mono ?_; rintro e w' ⟨rfl, rfl⟩))
            go_roundg (ns.length - tg)
            case measure => omega
            case rel => exact ⟨tg, p, g', i64_eq (by omega), i64_eq (by omega), by omega, below3 hb, hg'⟩
          · have m1 : ((le (wb P p) : Int) == (wv : Int)) = false := by simp; omega
            clear hm hv
            go_wp2_with (first | (go_at_call 18; refine (fields_any _ _ _ _ _ _ _ _ _).mono ?_; rintro e w' ⟨rfl, o1, o2, rfl⟩) | (go_at_call 29; refine (zzWord_in P p _ (by unfold maxLen; omega) hp).mono ?_; rintro e w' ⟨rfl, rfl⟩))
            go_roundg (ns.length - tg)
            case measure => omega
            case rel => exact ⟨tg, p, g', i64_eq (by omega), i64_eq (by omega), by omega, below3 hb, hg'⟩
        · have hno := ne_last HI.out HA.out HD.out rfl HMM.out rfl
          have HNO : Hid (∀ r, r < Xs.length → key Xs r ≠ P) := hno
          clear hno
          by_cases hv : le (wb P p) = wv
          · have m1 : ((le (wb P p) : Int) == (wv : Int)) = true := by simp; omega
            have m2 : (((wb P p).length : Int) == (ww : Int)) = false := by simp; omega
            clear hm hv
            go_wp2_with (first | (go_at_call 18; refine (fields_any _ _ _ _ _ _ _ _ _).mono ?_; rintro e w' ⟨rfl, o1, o2, rfl⟩) | (go_at_call 29; refine (zzWord_in P p _ (by unfold maxLen; omega) hp).mono ?_; rintro e w' ⟨rfl, rfl⟩))
            go_ret2
            exact ⟨.inr ⟨rfl, HNO.out⟩, below3 hb⟩
          · have m1 : ((le (wb P p) : Int) == (wv : Int)) = false := by simp; omega
            clear hm hv
            go_wp2_with (first | (go_at_call 18; refine (fields_any _ _ _ _ _ _ _ _ _).mono ?_; rintro e w' ⟨rfl, o1, o2, rfl⟩) | (go_at_call 29; refine (zzWord_in P p _ (by unfold maxLen; omega) hp).mono ?_; rintro e w' ⟨rfl, rfl⟩))
            go_ret2
            exact ⟨.inr ⟨rfl, HNO.out⟩, below3 hb⟩
    · change k = 2 at hk
      subst hk
      by_cases hv : le (wb P p) ≤ wv
      · obtain ⟨g', hg'⟩ := lt_low HI.out HA.out HD.out rfl hv
        go_wp2_with (first | (go_at_call 18; refine (fields_any _ _ _ _ _ _ _ _ _).mono ?_; rintro e w' ⟨rfl, o1, o2, rfl⟩) | (go_at_call 29; refine (zzWord_in P p _ (by unfold maxLen; omega) hp).mono ?_; rintro e w' ⟨rfl, rfl⟩))
        go_roundg (ns.length - (i + 1))
        case measure => omega
        case rel => exact ⟨(i + 1), p, g', i64_eq (by omega), i64_eq (by omega), by omega, below3 hb, hg'⟩
      · obtain ⟨ht, g', hg'⟩ := lt_high HI.out HA.out HD.out rfl hv
        change i < tg at ht
        have htl := hg'.lt HI.out
        change tg < ns.length at htl
        have ht' : ¬ tg ≤ i := by omega
        go_wp2_with (first | (go_at_call 18; refine (fields_any _ _ _ _ _ _ _ _ _).mono ?_; rintro e w' ⟨rfl, o1, o2, rfl⟩) | (go_at_call 29; refine (zzWord_in P p _ (by unfold maxLen; omega) hp).mono ?_; rintro e w' ⟨rfl, rfl⟩))
        go_roundg (ns.length - tg)
        case measure => omega
        case rel => exact ⟨tg, p, g', i64_eq (by omega), i64_eq (by omega), by omega, below3 hb, hg'⟩
    · change k = 3 at hk
      subst hk
      obtain ⟨g', hg'⟩ := els_next HI.out HA.out HD.out rfl
      go_wp2_with (first | (go_at_call 18; refine (fields_any _ _ _ _ _ _ _ _ _).mono ?_; rintro e w' ⟨rfl, o1, o2, rfl⟩) | (go_at_call 29; refine (zzWord_in P p _ (by unfold maxLen; omega) hp).mono ?_; rintro e w' ⟨rfl, rfl⟩))
      go_roundg (ns.length - (i + 1))
      case measure => omega
      case rel => exact ⟨(i + 1), p, g', i64_eq (by omega), i64_eq (by omega), by omega, below3 hb, hg'⟩
end Go.Proofs.Qxb6001311a
