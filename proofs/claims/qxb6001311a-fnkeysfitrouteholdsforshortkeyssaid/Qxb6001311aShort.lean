import Derived.Test.Qxb6001311aRoute
import Derived.Test.Qxb6001311aFit
namespace Go.Proofs.Qxb6001311a
open Go.RowKit

set_option maxHeartbeats 400000 in
theorem zzFit (g cap b off cap2 : Nat) (Xs : List ByteArray) (ns : List Nd) (G : List Gh) (w : World) (hN : NdsAt w g ns) (hI : Inv Xs ns G []) (hK : KeysAt w (some ⟨b, off, none⟩) b off Xs) (h64 : ∀ X ∈ Xs, X.size ≤ 64)
    (hl : ns.length ≤ 16777216) (hn : Xs.length ≤ 65536) (hwid : ∀ (i : Nat) (d : Nd), ns[i]? = some d → d.ww ≤ 8) :
    Calls Try.prog 20 #[.slice (some ⟨g, 0, none⟩) ns.length cap, .slice (some ⟨b, off, none⟩) Xs.length cap2] w fun e w' => e = .returned (.bool true) ∧ Below w.heap.size w w' := by
  go_enter Try.func20, Try.ntmps20
  go_wp2_with fail
  refine (fit_any g cap b off cap2 Xs ns G _ hN hI hK h64 hl hn hwid).mono ?_
  rintro e w' ⟨rfl, hb⟩
  go_wp2
  go_ret
  exact ⟨rfl, hb⟩
set_option maxHeartbeats 1000000 in
theorem fit_nil (a1 : Option Addr) (cap2 : Nat) (w : World) :
    Calls Try.prog 20 #[.slice none 0 0, .slice a1 0 cap2] w fun e w' => e = .returned (.bool true) ∧ w' = w := by
  go_enter Try.func20, Try.ntmps20
  go_wp2_with fail
  go_enter Try.func30, Try.ntmps30
  go_wp2
  go_loop [11] (fun i => i = .int .i64 0) (fun _ => 0)
  case atStart => rfl
  case round =>
    subst hrel
    go_wp2
    go_ret
    exact ⟨rfl, rfl⟩

set_option maxHeartbeats 2000000 in
theorem short_any (a0 : Option Addr) (b off cap : Nat) (Xs : List ByteArray) (w' : World) (hK : KeysAt w' a0 b off Xs) (hs : ∀ X ∈ Xs, X.size ≤ maxLen) (hn : Xs.length ≤ maxLen) :
    Calls Try.prog 6 #[.slice a0 Xs.length cap] w' fun e w => e = .returned (.bool true) ∧ Below w'.heap.size w' w := by
  go_enter Try.func6, Try.ntmps6
  go_wp2_with fail
  refine (bytes19 a0 b off cap Xs _ hK hs hn).mono ?_
  rintro e w' ⟨⟨r, rfl, hr⟩, rfl⟩
  cases r
  · go_wp2
    go_ret
    exact ⟨rfl, Below.refl _ _⟩
  have ht := hr rfl
  clear hr
  have hs1 : ∀ X ∈ Xs, X.size ≤ 1048576 := fun X hX => by have := mem_tot hX; omega
  by_cases h1 : (65536 : Int) < (Xs.length : Int)
  · go_wp2
    go_ret
    exact ⟨rfl, Below.refl _ _⟩
  go_wp2_with fail
  refine (keysBytes a0 b off cap Xs _ hK ht).mono ?_
  rintro e w' ⟨rfl, rfl⟩
  by_cases h2 : (1048576 : Int) < (16 * (Xs.length : Int) + (tot Xs : Int))
  · go_wp2
    go_ret
    exact ⟨rfl, Below.refl _ _⟩
  go_wp2_with fail
  go_loop [3] (fun i => ∃ k : Nat, k ≤ Xs.length ∧ i = .int .i64 k ∧ Hid (∀ j, j < k → (key Xs j).size ≤ 64)) (fun i => Xs.length - (intOf i).toNat)
  case atStart => exact ⟨0, by omega, rfl, fun j h => by omega⟩
  case round =>
    obtain ⟨k, hk, rfl, HK⟩ := hrel
    by_cases hlt : k < Xs.length
    · obtain ⟨rfl, _⟩ := hK.addr (by omega)
      have ck := hK.key k hlt
      have zk := hs1 _ (key_mem Xs k hlt)
      have hki : (k : Int) < (Xs.length : Int) := by omega
      by_cases h3 : (64 : Int) < ((key Xs k).size : Int)
      · go_wp2
        go_ret
        exact ⟨rfl, Below.refl _ _⟩
      · go_wp2
        go_round
        case rel => exact ⟨k + 1, by omega, by go_num, fun j hj => by rcases Nat.lt_or_ge j k with h | h; exact HK.out j h; rw [show j = k by omega]; omega⟩
        case measure => simp [intOf]; omega
    · have H64 : Hid (∀ X ∈ Xs, X.size ≤ 64) := fun X hX => by
        obtain ⟨j, hj, e⟩ := List.mem_iff_getElem.1 hX
        rw [← e, ← key_eq Xs j hj]
        exact HK.out j (by omega)
      clear HK
      go_wp2_with fail
      refine (order_any a0 b off cap Xs _ hK hs1 (by omega)).mono ?_
      rintro e w1 ⟨⟨r, rfl, hr2⟩, hb1⟩
      cases r
      · go_wp2
        go_ret
        exact ⟨rfl, hb1⟩
      have hS : Hid (Sorted Xs) := sorted_of (hr2 rfl)
      clear hr2
      go_wp2_with fail
      refine (clone_any a0 b off cap Xs _ (hK.below hb1) (by omega)).mono ?_
      rintro e w2 ⟨a1, b1, off1, cap1, rfl, hK2, hb2⟩
      have hb12 : Below w'.heap.size w' w2 := hb1.trans (hb2.mono hb1.size)
      go_wp2_with fail
      refine (route_any a1 b1 off1 cap1 Xs _ hK2 (by omega) ht hS.out).mono ?_
      rintro e w3 ⟨hb3, hres⟩
      have hb13 : Below w'.heap.size w' w3 := hb12.trans (hb3.mono hb12.size)
      have hK3 := hK2.below hb3
      clear hb1 hb2 hb12 hb3 hK2
      rcases hres with ⟨hx, rfl⟩ | ⟨h0, g, cp, ns, G, rfl, hN, hI, hl, hwid⟩
      · subst hx
        go_wp2_with fail
        refine (fit_nil a1 cap1 _).mono ?_
        rintro e w4 ⟨rfl, rfl⟩
        go_wp2
        go_ret
        exact ⟨rfl, hb13⟩
      · obtain ⟨rfl, _⟩ := hK3.addr h0
        go_wp2_with fail
        refine (zzFit g cp b1 off1 cap1 Xs ns G _ hN hI hK3 H64.out hl (by omega) hwid).mono ?_
        rintro e w4 ⟨rfl, hb4⟩
        go_wp2
        go_ret
        exact ⟨rfl, hb13.trans (hb4.mono hb13.size)⟩
end Go.Proofs.Qxb6001311a
