import Derived.Test.Qxb6001311aRoute
import Derived.Test.Qxb6001311aFit
namespace Go.Proofs.Qxb6001311a
open Go.RowKit

set_option maxHeartbeats 2000000 in
theorem every_any (a0 : Option Addr) (b off cap : Nat) (Xs : List ByteArray) (w' : World) (hK : KeysAt w' a0 b off Xs) (hs : ∀ X ∈ Xs, X.size ≤ maxLen) (hn : Xs.length ≤ maxLen) :
    Calls Try.prog 3 #[.slice a0 Xs.length cap] w' fun e w => e = .returned (.bool true) ∧ Below w'.heap.size w' w := by
  go_enter Try.func3, Try.ntmps3
  go_wp2_with fail
  refine (bytes10 a0 b off cap Xs _ hK hs hn).mono ?_
  rintro e w' ⟨⟨r, rfl, hr⟩, rfl⟩
  cases r
  · go_wp2
    go_ret
    exact ⟨rfl, Below.refl _ _⟩
  have ht := hr rfl
  clear hr
  have hs1 : ∀ X ∈ Xs, X.size ≤ 1048576 := fun X hX => by have := mem_tot hX; omega
  by_cases h1 : (65536 : Int) < (Xs.length : Int)
  · go_wp2
    go_ret
    exact ⟨rfl, Below.refl _ _⟩
  go_wp2_with fail
  refine (keysBytes a0 b off cap Xs _ hK ht).mono ?_
  rintro e w' ⟨rfl, rfl⟩
  by_cases h2 : (1048576 : Int) < (16 * (Xs.length : Int) + (tot Xs : Int))
  · go_wp2
    go_ret
    exact ⟨rfl, Below.refl _ _⟩
  go_wp2_with fail
  refine (order_any a0 b off cap Xs _ hK hs1 (by omega)).mono ?_
  rintro e w1 ⟨⟨r, rfl, hr2⟩, hb1⟩
  cases r
  · go_wp2
    go_ret
    exact ⟨rfl, hb1⟩
  have hS : Hid (Sorted Xs) := sorted_of (hr2 rfl)
  clear hr2
  go_wp2_with fail
  refine (clone_any a0 b off cap Xs _ (hK.below hb1) (by omega)).mono ?_
  rintro e w2 ⟨a1, b1, off1, cap1, rfl, hK2, hb2⟩
  have hb12 : Below w'.heap.size w' w2 := hb1.trans (hb2.mono hb1.size)
  go_wp2_with fail
  refine (route_any a1 b1 off1 cap1 Xs _ hK2 (by omega) ht hS.out).mono ?_
  rintro e w3 ⟨hb3, hres⟩
  have hb13 : Below w'.heap.size w' w3 := hb12.trans (hb3.mono hb12.size)
  have hK3 := hK2.below hb3
  clear hb1 hb2 hb12 hb3 hK2
  rcases hres with ⟨hx, rfl⟩ | ⟨h0, g, cp, ns, G, rfl, hN, hI, hl, _⟩
  · subst hx
    go_wp2
    go_loop [4] (fun i => i = .int .i64 0) (fun _ => 0)
    case atStart => rfl
    case round =>
      subst hrel
      go_wp2
      go_ret
      exact ⟨rfl, hb13⟩
  · obtain ⟨rfl, _⟩ := hK3.addr h0
    have HI : Hid (Inv Xs ns G []) := hI
    clear hI
    go_wp2
    go_loopw [4] (fun i wr => ∃ k : Nat, k ≤ Xs.length ∧ i = .int .i64 k ∧ Below w3.heap.size w3 wr) (fun i _ => Xs.length - (intOf i).toNat)
    case atStart => exact ⟨0, by omega, rfl, Below.refl _ _⟩
    case round =>
      obtain ⟨k, hk, rfl, hb⟩ := hrel
      by_cases hlt : k < Xs.length
      · have ck := (hK3.below hb).key k hlt
        have zk := hs1 _ (key_mem Xs k hlt)
        have hki : (k : Int) < (Xs.length : Int) := by omega
        go_wp2_with fail
        refine (walk_any g cp Xs (key Xs k) ns G _ (hN.below hb) HI.out hS.out zk hl).mono ?_
        rintro e w4 ⟨hres, hb4⟩
        rcases hres with ⟨r, rfl, hr1, hr2, hr3⟩ | ⟨rfl, hno⟩
        · have e := hr3 k hlt rfl
          subst e
          clear hr1 hr2 hr3
          have e2 : ((k : Int) != (k : Int)) = false := by simp
          go_wp2
          go_roundw
          case rel => exact ⟨k + 1, by omega, by go_num, hb.trans (hb4.mono hb.size)⟩
          case measure => simp [intOf]; omega
        · exact absurd rfl (hno k hlt)
      · go_wp2
        go_ret
        exact ⟨rfl, hb13.trans (hb.mono hb13.size)⟩
end Go.Proofs.Qxb6001311a
