/- The walks of zzWord, zzWordCount, keyWord. -/
import Derived.Test.Qxb6001311aRows
import Derived.Test.Qxb6001311aWordP
import Derived.WalkKit
import Derived.WalkSpells
import Derived.WalkLawsBesides
import Derived.Laws.BitsAllLaws
import Derived.Deep.Draws
import Derived.RegionTactic
import Derived.WalkSmall
namespace Go.Proofs.Qxb6001311a
open Go.RowKit

theorem or_step (x b : Nat) (hx : x < 72057594037927936) (hb : b < 256) : bits .or .u64 (IntKind.u64.wrap ((x : Int) * 256)) (IntKind.u64.wrap (b : Int)) = ((b + 256 * x : Nat) : Int) := by
  rw [IntKind.wrap_u64, IntKind.wrap_u64]
  have e1 : ((x : Int) * 256) % 18446744073709551616 = ((256 * x : Nat) : Int) := by omega
  have e2 : (b : Int) % 18446744073709551616 = ((b : Nat) : Int) := by omega
  rw [e1, e2, u64_or_nat _ _ (by omega) (by omega)]
  have := Nat.two_pow_add_eq_or_of_lt (i := 8) hb x
  simp only [show (2 : Nat) ^ 8 = 256 from rfl] at this
  rw [← this, Nat.add_comm]

theorem u64_eq {a b : Int} (h : a = b) : Value.int .u64 a = .int .u64 b := by rw [h]
theorem i64_eq {a b : Int} (h : a = b) : Value.int .i64 a = .int .i64 b := by rw [h]
theorem ret_uw {a b c d : Int} (h : a = b) (k : c = d) : Ending.returned (.tuple #[.int .u64 a, .int .i64 c]) = .returned (.tuple #[.int .u64 b, .int .i64 d]) := by rw [h, k]

set_option maxHeartbeats 400000 in
theorem zzWord_in (s : ByteArray) (p : Nat) (w : World) (hs : s.size ≤ maxLen) (hp : p ≤ s.size) :
    Calls Try.prog 29 #[.string s, .int .i64 p] w fun e w' => e = .returned (.tuple #[.int .u64 (le (wb s p)), .int .i64 (wb s p).length]) ∧ w' = w := by
  unfold maxLen at hs
  have hl := wb_len s p
  have d1 : decide ((p : Int) < 0) = false := by simp
  have d2 : decide (s.size < p) = false := by simp; omega
  by_cases h8 : 8 < s.size - p
  · have h8' : (8 : Int) < (s.size : Int) - p := by omega
    go_enter Try.func29, Try.ntmps29
    go_wp2
    go_loop [7, 8] (fun v i => ∃ k : Nat, k ≤ 8 ∧ i = .int .i64 ((k : Int) - 1) ∧ v = .int .u64 (le ((wb s p).drop k))) (fun _ i => (intOf i + 1).toNat)
    case atStart => exact ⟨8, Nat.le_refl _, rfl, by rw [List.drop_eq_nil_of_le (by omega)]; rfl⟩
    case round =>
      obtain ⟨k, hk, rfl, rfl⟩ := hrel
      rcases k with _ | q
      · go_wp2
        go_ret2
        exact ⟨ret_uw (by simp) (by omega), rfl⟩
      · have hi1 : (0 : Int) ≤ ((q + 1 : Nat) : Int) - 1 := by omega
        go_wp2
        go_round
        case rel => exact ⟨q, by omega, rfl, u64_eq (by rw [or_step _ _ (le_drop_lt s p (q + 1) (by omega)) (UInt8.toNat_lt _), le_drop s p q (by omega) (by omega)])⟩
        case measure => simp [intOf]
  · have h8' : ¬ (8 : Int) < (s.size : Int) - p := by omega
    go_enter Try.func29, Try.ntmps29
    go_wp2
    go_loop [7, 8] (fun v i => ∃ k : Nat, k ≤ s.size - p ∧ i = .int .i64 ((k : Int) - 1) ∧ v = .int .u64 (le ((wb s p).drop k))) (fun _ i => (intOf i + 1).toNat)
    case atStart => exact ⟨s.size - p, Nat.le_refl _, i64_eq (by omega), by rw [List.drop_eq_nil_of_le (by omega)]; rfl⟩
    case round =>
      obtain ⟨k, hk, rfl, rfl⟩ := hrel
      rcases k with _ | q
      · go_wp2
        go_ret2
        exact ⟨ret_uw (by simp) (by omega), rfl⟩
      · have hi1 : (0 : Int) ≤ ((q + 1 : Nat) : Int) - 1 := by omega
        go_wp2
        go_round
        case rel => exact ⟨q, by omega, rfl, u64_eq (by rw [or_step _ _ (le_drop_lt s p (q + 1) (by omega)) (UInt8.toNat_lt _), le_drop s p q (by omega) (by omega)])⟩
        case measure => simp [intOf]

theorem set0 (W : World) (a b v : Value) (t : TypeId) (n g : Nat) (hg : g = W.heap.size) : ((W.alloc (.cells #[a, b] t)).drewN n).setCell ⟨g, 0, none⟩ v = (W.alloc (.cells #[v, b] t)).drewN n := by
  show ((W.alloc (.cells #[a, b] t)).setCell ⟨g, 0, none⟩ v).drewN n = _
  rw [World.setCell_alloc_at _ _ _ _ _ hg]
  rfl

set_option maxHeartbeats 400000 in
/-- keyWord: the word; it makes memory of its own alone. -/
theorem keyWord_in (s : ByteArray) (p : Nat) (w : World) (hs : s.size ≤ 1048576) (hp : p ≤ s.size) :
    Calls Try.prog 37 #[.string s, .int .i64 p] w fun e w' => e = .returned (.agg #[.int .u64 (le (wb s p)), .int .i64 (wb s p).length]) ∧ Below w.heap.size w w' := by
  have hl := wb_len s p
  by_cases h8 : 8 < s.size - p
  · have h8' : ¬ ((s.size : Int) - p ≤ 8) := by omega
    have h8'' : (8 : Int) < (s.size : Int) - p := by omega
    go_enter Try.func37, Try.ntmps37
    go_wp2
    go_loopw [6] (fun i wr => ∃ k n : Nat, k ≤ 8 ∧ i = .int .i64 ((p : Int) + k - 1) ∧ wr = ((w.alloc (.cells #[.int .u64 0, .int .i64 0] 38)).alloc (.cells #[.int .u64 (le ((wb s p).drop k)), .int .i64 8] 38)).drewN n) (fun i _ => (intOf i + 1 - p).toNat)
    case atStart => exact ⟨8, 0, Nat.le_refl _, i64_eq (by omega), by rw [List.drop_eq_nil_of_le (by omega)]; rfl⟩
    case round =>
      obtain ⟨k, n, hk, rfl, rfl⟩ := hrel
      rcases k with _ | q
      · go_wp2
        simp [bodyPost, results, Try.results37, go_sem]
        exact ⟨by omega, ((below_drewN (((Below.refl _ _).alloc (Nat.le_refl _) _).alloc (by simp) _) n).setCell (Nat.le_refl _) _).setCell (Nat.le_refl _) _⟩
      · have e1 : (p : Int) + ((q + 1 : Nat) : Int) - 1 = (p : Int) + q := by omega
        rw [e1]
        clear e1
        have hi0 : (0 : Int) ≤ (p : Int) + q := by omega
        have hi1 : (p : Int) ≤ (p : Int) + q := by omega
        have hi2 : (p : Int) + q < s.size := by omega
        go_wp2
        go_region
        go_wp2
        go_roundw
        case rel => exact ⟨q, n + 1, by omega, rfl, by rw [set0 _ _ _ _ _ _ _ (by simp), or_step _ _ (le_drop_lt s p (q + 1) (by omega)) (UInt8.toNat_lt _), le_drop s p q (by omega) (by omega)]⟩
        case measure => simp [intOf]; omega
  · have h8' : ((s.size : Int) - p ≤ 8) := by omega
    have h8'' : ¬ (8 : Int) < (s.size : Int) - p := by omega
    go_enter Try.func37, Try.ntmps37
    go_wp2
    go_loopw [6] (fun i wr => ∃ k n : Nat, k ≤ (s.size - p) ∧ i = .int .i64 ((p : Int) + k - 1) ∧ wr = ((w.alloc (.cells #[.int .u64 0, .int .i64 0] 38)).alloc (.cells #[.int .u64 (le ((wb s p).drop k)), .int .i64 ((s.size : Int) - p)] 38)).drewN n) (fun i _ => (intOf i + 1 - p).toNat)
    case atStart => exact ⟨(s.size - p), 0, Nat.le_refl _, i64_eq (by omega), by rw [List.drop_eq_nil_of_le (by omega)]; rfl⟩
    case round =>
      obtain ⟨k, n, hk, rfl, rfl⟩ := hrel
      rcases k with _ | q
      · go_wp2
        simp [bodyPost, results, Try.results37, go_sem]
        exact ⟨by omega, ((below_drewN (((Below.refl _ _).alloc (Nat.le_refl _) _).alloc (by simp) _) n).setCell (Nat.le_refl _) _).setCell (Nat.le_refl _) _⟩
      · have e1 : (p : Int) + ((q + 1 : Nat) : Int) - 1 = (p : Int) + q := by omega
        rw [e1]
        clear e1
        have hi0 : (0 : Int) ≤ (p : Int) + q := by omega
        have hi1 : (p : Int) ≤ (p : Int) + q := by omega
        have hi2 : (p : Int) + q < s.size := by omega
        go_wp2
        go_region
        go_wp2
        go_roundw
        case rel => exact ⟨q, n + 1, by omega, rfl, by rw [set0 _ _ _ _ _ _ _ (by simp), or_step _ _ (le_drop_lt s p (q + 1) (by omega)) (UInt8.toNat_lt _), le_drop s p q (by omega) (by omega)]⟩
        case measure => simp [intOf]; omega

set_option maxHeartbeats 400000 in
theorem zzCount (s : ByteArray) (w : World) (hs : s.size ≤ 1048576) :
    Calls Try.prog 35 #[.string s] w fun e w' => e = .returned (.int .i64 (wcount s)) ∧ w' = w := by
  unfold wcount
  by_cases h0 : s.size = 0
  · have h0' : ((s.size : Int) == 0) = true := by simp [h0]
    go_enter Try.func35, Try.ntmps35
    go_wp2
    go_ret
    exact ⟨by simp, rfl⟩
  · have h0' : ((s.size : Int) == 0) = false := by simp [h0]
    go_enter Try.func35, Try.ntmps35
    go_wp2
    go_ret
    exact ⟨rfl, rfl⟩
end Go.Proofs.Qxb6001311a
