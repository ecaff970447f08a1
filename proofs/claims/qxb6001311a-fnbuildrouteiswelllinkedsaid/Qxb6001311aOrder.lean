import Derived.Test.Qxb6001311aLess
import Derived.Deep.RegionHeld3
namespace Go.Proofs.Qxb6001311a
open Go.RowKit

/-- The keys of a slice value: Xs, from cell 'off' of block b on. -/
structure KeysAt (w : World) (a0 : Option Addr) (b off : Nat) (Xs : List ByteArray) : Prop where
  addr : 0 < Xs.length → a0 = some ⟨b, off, none⟩ ∧ b < w.heap.size
  cell : ∀ j X, Xs[j]? = some X → w.cell? ⟨b, off + j, none⟩ = some (.string X)

theorem KeysAt.get {w : World} {a0 : Option Addr} {b off : Nat} {Xs : List ByteArray} (h : KeysAt w a0 b off Xs) (j : Nat) (hj : j < Xs.length) : w.cell? ⟨b, off + j, none⟩ = some (.string Xs[j]) := h.cell j _ (List.getElem?_eq_getElem hj)

theorem wrapId (x : Int) (h0 : -9223372036854775808 ≤ x) (h1 : x ≤ 9223372036854775807) : IntKind.i64.wrap x = x := by
  rw [IntKind.wrap_i64]; omega

set_option maxHeartbeats 1000000 in
theorem order_any (a0 : Option Addr) (b off cap : Nat) (Xs : List ByteArray) (w : World) (hK : KeysAt w a0 b off Xs) (hs : ∀ X ∈ Xs, X.size ≤ 1048576) (hn : Xs.length ≤ 1048576) :
    Calls Try.prog 12 #[.slice a0 Xs.length cap] w fun e w' => BoolThat (∀ i (h : i + 1 < Xs.length), RLess Xs[i] Xs[i + 1]) e ∧ Below w.heap.size w w' := by
  go_enter Try.func12, Try.ntmps12
  go_wp2
  go_loopw [3] (fun i wr => ∃ k q : Nat, 1 ≤ k ∧ k ≤ Xs.length + 1 ∧ i = .int .i64 k ∧ wr = w.drewN q ∧ Hid (∀ i (h : i + 1 < Xs.length), i + 1 < k → RLess Xs[i] Xs[i + 1])) (fun i _ => Xs.length - (intOf i).toNat)
  case atStart => exact ⟨1, 0, by omega, by omega, rfl, rfl, fun i h h' => by omega⟩
  case round =>
    obtain ⟨k, q, hk1, hk2, rfl, rfl, heq⟩ := hrel
    by_cases h1 : k < Xs.length
    · obtain ⟨rfl, hb⟩ := hK.addr (by omega)
      have c1 := hK.get k h1
      have c0 := hK.get (k - 1) (by omega)
      have z0 := hs _ (List.getElem_mem (show k - 1 < Xs.length by omega))
      have z1 := hs _ (List.getElem_mem h1)
      obtain ⟨m, rfl⟩ : ∃ m, k = m + 1 := ⟨k - 1, by omega⟩
      simp only [Nat.add_sub_cancel] at c0 z0
      have i0 : (m : Int) < (Xs.length : Int) := by omega
      have i1 : (m : Int) + 1 < (Xs.length : Int) := by omega
      have p0 : (0 : Int) ≤ (m : Int) := by omega
      have p1 : (0 : Int) ≤ (m : Int) + 1 := by omega
      have wm := wrapId (m : Int) (by omega) (by omega)
      have wm1 := wrapId ((m : Int) + 1) (by omega) (by omega)
      go_wp2
      go_region_held3 (fun w' => w'.cell? ⟨b, off + m, none⟩ = some (.string Xs[m]) ∧ w'.cell? ⟨b, off + (m + 1), none⟩ = some (.string Xs[m + 1])) (simp [go_sem, c0, c1])
        (first
          | (go_at_call 27; refine (less_any _ _ _ z0 z1).mono ?_; rintro e w' ⟨⟨r, rfl, hr⟩, rfl⟩))
      go_wp2
      · go_ret
        exact ⟨boolThat_mk (fun h => by simp at h), below_drewN (Below.refl _ _) _⟩
      · have hrt : (!r) = false := by assumption
        go_roundw
        case rel => exact ⟨m + 2, q + 1, by omega, by omega, by go_num, rfl, fun i h h' => by rcases Nat.lt_or_ge (i + 1) (m + 1) with g | g; exact heq.out i h g; exact (by omega : i = m) ▸ hr (by simpa using hrt)⟩
        case measure => simp [intOf]; omega
    · go_wp2
      go_ret
      exact ⟨boolThat_mk (fun _ i h => heq.out i h (by omega)), below_drewN (Below.refl _ _) q⟩
end Go.Proofs.Qxb6001311a
