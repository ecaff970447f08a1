import Derived.Test.Qxb6001311aRoute
import Derived.Test.Qxb6001311aFit
namespace Go.Proofs.Qxb6001311a
open Go.RowKit

theorem ret_bool4 {a b : Bool} (h : a = b) : Ending.returned (.bool a) = .returned (.bool b) := by rw [h]
theorem str_ne {a b : ByteArray} (h : a ≠ b) : (a.toList == b.toList) = false := by
  rw [beq_eq_false_iff_ne]
  intro e
  apply h
  have e' : a.data.toList = b.data.toList := by simpa [ByteArray.toList_eq] using e
  exact ByteArray.ext (Array.toList_inj.1 e')

set_option maxRecDepth 100000 in
set_option maxHeartbeats 1000000 in
theorem walk_nil (P : ByteArray) (w : World) : Calls Try.prog 15 #[.slice none 0 0, .string P] w fun e w' => e = .returned (.tuple #[.int .i64 0, .bool false]) ∧ w' = w := by
  go_enter Try.func15, Try.ntmps15
  go_wp2
  go_loop [6] (fun i => i = .int .i64 0) (fun _ => 0)
  case atStart => rfl
  case round =>
    subst hrel
    go_wp2
    go_ret2
    exact ⟨rfl, rfl⟩

set_option maxHeartbeats 2000000 in
theorem only_any (a0 : Option Addr) (b off cap : Nat) (Xs : List ByteArray) (P : ByteArray) (w' : World) (hK : KeysAt w' a0 b off Xs) (hs : ∀ X ∈ Xs, X.size ≤ maxLen) (hn : Xs.length ≤ maxLen) (hP : P.size ≤ maxLen) :
    Calls Try.prog 4 #[.slice a0 Xs.length cap, .string P] w' fun e w => e = .returned (.bool true) ∧ Below w'.heap.size w' w := by
  go_enter Try.func4, Try.ntmps4
  go_wp2_with fail
  refine (bytes16 a0 b off cap Xs P _ hK hs hn hP).mono ?_
  rintro e w' ⟨⟨r, rfl, hr⟩, rfl⟩
  cases r
  · go_wp2
    go_ret
    exact ⟨rfl, Below.refl _ _⟩
  have ht := hr rfl
  clear hr
  have hs1 : ∀ X ∈ Xs, X.size ≤ 1048576 := fun X hX => by have := mem_tot hX; omega
  have hPs : P.size ≤ 1048576 := by omega
  have ht1 : Xs.length + tot Xs ≤ 1048576 := by omega
  by_cases h1 : (65536 : Int) < (Xs.length : Int)
  · go_wp2
    go_ret
    exact ⟨rfl, Below.refl _ _⟩
  have h1b : ¬ (1048576 : Int) < (P.size : Int) := by omega
  go_wp2_with fail
  refine (keysBytes a0 b off cap Xs _ hK ht1).mono ?_
  rintro e w' ⟨rfl, rfl⟩
  by_cases h2 : (1048576 : Int) < (16 * (Xs.length : Int) + (tot Xs : Int)) + (P.size : Int)
  · go_wp2
    go_ret
    exact ⟨rfl, Below.refl _ _⟩
  go_wp2_with fail
  refine (order_any a0 b off cap Xs _ hK hs1 (by omega)).mono ?_
  rintro e w1 ⟨⟨r, rfl, hr2⟩, hb1⟩
  cases r
  · go_wp2
    go_ret
    exact ⟨rfl, hb1⟩
  have hS : Hid (Sorted Xs) := sorted_of (hr2 rfl)
  clear hr2
  go_wp2_with fail
  refine (clone_any a0 b off cap Xs _ (hK.below hb1) (by omega)).mono ?_
  rintro e w2 ⟨a1, b1, off1, cap1, rfl, hK2, hb2⟩
  have hb12 : Below w'.heap.size w' w2 := hb1.trans (hb2.mono hb1.size)
  go_wp2_with fail
  refine (route_any a1 b1 off1 cap1 Xs _ hK2 (by omega) ht1 hS.out).mono ?_
  rintro e w3 ⟨hb3, hres⟩
  have hb13 : Below w'.heap.size w' w3 := hb12.trans (hb3.mono hb12.size)
  have hK3 := hK2.below hb3
  clear hb1 hb2 hb12 hb3 hK2
  rcases hres with ⟨hx, rfl⟩ | ⟨h0, g, cp, ns, G, rfl, hN, hI, hl, _⟩
  · subst hx
    go_wp2_with fail
    refine (walk_nil P _).mono ?_
    rintro e w4 ⟨rfl, rfl⟩
    go_wp2
    go_loop [8] (fun i => i = .int .i64 0) (fun _ => 0)
    case atStart => rfl
    case round =>
      subst hrel
      go_wp2
      go_ret
      exact ⟨rfl, hb13⟩
  · obtain ⟨rfl, _⟩ := hK3.addr h0
    go_wp2_with fail
    refine (walk_any g cp Xs P ns G _ hN hI hS.out hPs hl).mono ?_
    rintro e w4 ⟨hres, hb4⟩
    have hK4 := hK3.below hb4
    have hb14 := hb13.trans (hb4.mono hb13.size)
    rcases hres with ⟨r, rfl, hr1, hr2, hr3⟩ | ⟨rfl, hno⟩
    · have ck := hK4.key r hr1
      rw [hr2] at ck
      clear hr2 hr3
      have hri : (r : Int) < (Xs.length : Int) := by omega
      go_wp2
      go_ret
      exact ⟨ret_bool4 (by simp), hb14⟩
    · have HNO : Hid (∀ r, r < Xs.length → key Xs r ≠ P) := hno
      clear hno
      go_wp2
      go_loop [8] (fun i => ∃ k : Nat, k ≤ Xs.length ∧ i = .int .i64 k) (fun i => Xs.length - (intOf i).toNat)
      case atStart => exact ⟨0, by omega, rfl⟩
      case round =>
        obtain ⟨k, hk, rfl⟩ := hrel
        by_cases hlt : k < Xs.length
        · have ck := hK4.key k hlt
          have hki : (k : Int) < (Xs.length : Int) := by omega
          have hne := HNO.out k hlt
          have hneB : ((key Xs k).toList == P.toList) = false := str_ne hne
          clear hne
          go_wp2
          go_round
          case rel => exact ⟨k + 1, by omega, by go_num⟩
          case measure => simp [intOf]; omega
        · go_wp2
          go_ret
          exact ⟨rfl, hb14⟩
end Go.Proofs.Qxb6001311a
