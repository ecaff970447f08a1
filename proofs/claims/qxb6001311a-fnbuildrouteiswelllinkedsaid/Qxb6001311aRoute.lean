/- ZZBuildRoute, as the laws want it. -/
import Derived.Test.Qxb6001311aBuild
import Derived.Test.Qxb6001311aRead
import Derived.Test.Qxb6001311aInitP
namespace Go.Proofs.Qxb6001311a
open Go.RowKit

set_option maxRecDepth 100000 in
set_option maxHeartbeats 1000000 in
theorem build_nil (a0 : Option Addr) (cap : Nat) (w : World) : Calls Try.prog 28 #[.slice a0 0 cap] w fun e w' => e = .returned (.slice none 0 0) ∧ w' = w := by
  go_enter Try.func28, Try.ntmps28
  go_wp2
  go_ret
  exact ⟨rfl, rfl⟩

/-- What ZZBuildRoute answers. -/
def Route (Xs : List ByteArray) (w : World) (e : Ending) (w' : World) : Prop :=
  Below w.heap.size w w' ∧ ((Xs = [] ∧ e = .returned (.slice none 0 0)) ∨
    (0 < Xs.length ∧ ∃ (g cap : Nat) (ns : List Nd) (G : List Gh), e = .returned (.slice (some ⟨g, 0, none⟩) ns.length cap) ∧ NdsAt w' g ns ∧ Inv Xs ns G [] ∧ ns.length ≤ 16777216 ∧ ∀ (i : Nat) (d : Nd), ns[i]? = some d → d.ww ≤ 8))

theorem route_of {Xs : List ByteArray} {B : Nat} {w w' : World} {e : Ending} (h0 : 0 < Xs.length) (hB : B ≤ 16777216) (h : Built Xs B w e w') : Route Xs w e w' := by
  obtain ⟨v, ns, G, rfl, hb, hM⟩ := h
  have hpos : 0 < ns.length := by
    rcases hb.inv.head with ⟨_, t, x, _⟩ | ⟨g, x, _⟩
    · cases x
    · have := lt_of_get x; rw [hb.inv.len] at this; exact this
  obtain ⟨g, cap, rfl⟩ := ownsRow_form' hM.nodes hpos
  exact ⟨hM.below, .inr ⟨h0, g, cap, ns, G, rfl, ndsAt_of hM.nodes, hb.inv, by have := hb.lens; omega, hb.wid⟩⟩

theorem sorted_of {Xs : List ByteArray} (h : ∀ i (h : i + 1 < Xs.length), RLess Xs[i] Xs[i + 1]) : Sorted Xs := fun i hi => by
  rw [key_eq Xs i (by omega), key_eq Xs (i + 1) hi]; exact h i hi

set_option maxHeartbeats 400000 in
theorem route_any (a0 : Option Addr) (b off cap : Nat) (Xs : List ByteArray) (w : World) (hK : KeysAt w a0 b off Xs) (hn : Xs.length ≤ 65536) (ht : Xs.length + tot Xs ≤ 1048576) (hS : Sorted Xs) :
    Calls Try.prog 14 #[.slice a0 Xs.length cap] w fun e w' => Route Xs w e w' := by
  have hs : ∀ X ∈ Xs, X.size ≤ 1048576 := fun X hX => by have := mem_tot hX; omega
  rcases Nat.eq_zero_or_pos Xs.length with h0 | h0
  · have : Xs = [] := List.length_eq_zero_iff.1 h0
    subst this
    go_enter Try.func14, Try.ntmps14
    go_wp2_with fail
    refine (build_nil a0 cap _).mono ?_
    rintro e w' ⟨rfl, rfl⟩
    go_wp2
    go_ret
    exact ⟨Below.refl _ _, .inl ⟨rfl, rfl⟩⟩
  · obtain ⟨rfl, _⟩ := hK.addr h0
    have hB : 2 * (tot Xs + 2 * Xs.length) ≤ 16777216 := by omega
    go_enter Try.func14, Try.ntmps14
    go_wp2_with fail
    refine (build_any b off cap Xs _ hK h0 hn hs hS (2 * (tot Xs + 2 * Xs.length)) hB (bld_init Xs h0 _ (Nat.le_refl _))).mono ?_
    intro e w' hres
    have HR : Hid (Route Xs w e w') := route_of h0 hB hres
    obtain ⟨v, _, _, rfl, _⟩ := hres
    go_wp2
    go_ret
    exact HR.out
end Go.Proofs.Qxb6001311a
