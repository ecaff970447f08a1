/- The walks of zzRouteLess and zzInRouteOrder. -/
import Derived.Test.Qxb6001311aWord
namespace Go.Proofs.Qxb6001311a
open Go.RowKit

/-- A bool is returned; if it is true, then p. -/
def BoolThat (p : Prop) (e : Ending) : Prop := ∃ r : Bool, e = .returned (.bool r) ∧ (r = true → p)
theorem boolThat_mk {p : Prop} {r : Bool} (h : r = true → p) : BoolThat p (.returned (.bool r)) := ⟨r, rfl, h⟩

theorem rless_here {a b : ByteArray} {k : Nat} (h1 : k < wcount a) (h2 : k < wcount b) (heq : ∀ i, i < k → wb a (8 * i) = wb b (8 * i)) (h : wless (wb a (8 * k)) (wb b (8 * k))) : RLess a b := ⟨k, heq, .inl ⟨h1, h2, h⟩⟩
theorem rless_end {a b : ByteArray} {k : Nat} (h1 : k = wcount a) (h2 : wcount a < wcount b) (heq : ∀ i, i < k → wb a (8 * i) = wb b (8 * i)) : RLess a b := ⟨k, heq, .inr ⟨h1, h2⟩⟩

theorem zzWord_8 (s : ByteArray) (k : Nat) (w : World) (hs : s.size ≤ 1048576) (hp : 8 * k ≤ s.size) :
    Calls Try.prog 29 #[.string s, .int .i64 (8 * (k : Int))] w fun e w' => e = .returned (.tuple #[.int .u64 (le (wb s (8 * k))), .int .i64 (wb s (8 * k)).length]) ∧ w' = w := by
  have h := zzWord_in s (8 * k) w (by unfold maxLen; omega) hp
  have e : ((8 * k : Nat) : Int) = 8 * (k : Int) := by omega
  rw [e] at h
  exact h

set_option maxHeartbeats 1000000 in
theorem less_any (a b : ByteArray) (w : World) (ha : a.size ≤ 1048576) (hb : b.size ≤ 1048576) :
    Calls Try.prog 27 #[.string a, .string b] w fun e w' => BoolThat (RLess a b) e ∧ w' = w := by
  have na : wcount a ≤ 131073 := by unfold wcount; split <;> omega
  have nb : wcount b ≤ 131073 := by unfold wcount; split <;> omega
  go_enter Try.func27, Try.ntmps27
  go_wp2_with fail
  refine (zzCount a _ ha).mono ?_
  rintro e w' ⟨rfl, rfl⟩
  go_wp2_with fail
  refine (zzCount b _ hb).mono ?_
  rintro e w' ⟨rfl, rfl⟩
  go_wp2_with fail
  go_loop [7] (fun j => ∃ k : Nat, k ≤ wcount a ∧ k ≤ wcount b ∧ j = .int .i64 k ∧ Hid (∀ i, i < k → wb a (8 * i) = wb b (8 * i))) (fun j => wcount a - (intOf j).toNat)
  case atStart => exact ⟨0, by omega, by omega, rfl, fun i h => by omega⟩
  case round =>
    obtain ⟨k, hk1, hk2, rfl, heq⟩ := hrel
    by_cases h1 : k < wcount a
    · by_cases h2 : k < wcount b
      · have la := wcount_le h1
        have lb := wcount_le h2
        go_wp2_with fail
        refine (zzWord_8 a k _ ha la).mono ?_
        rintro e w' ⟨rfl, rfl⟩
        go_wp2_with fail
        refine (zzWord_8 b k _ hb lb).mono ?_
        rintro e w' ⟨rfl, rfl⟩
        go_wp2_with fail
        · go_ret
          exact ⟨boolThat_mk (fun h => rless_here h1 h2 heq.out (.inl (of_decide_eq_true h))), rfl⟩
        · have hv : ((le (wb a (8 * k)) : Int) != (le (wb b (8 * k)) : Int)) = false := by assumption
          go_ret
          exact ⟨boolThat_mk (fun h => rless_here h1 h2 heq.out (.inr ⟨by simp at hv; omega, of_decide_eq_true h⟩)), rfl⟩
        · have hv : ((le (wb a (8 * k)) : Int) != (le (wb b (8 * k)) : Int)) = false := by assumption
          have hw : (((wb a (8 * k)).length : Int) != ((wb b (8 * k)).length : Int)) = false := by assumption
          have he : wb a (8 * k) = wb b (8 * k) := le_inj _ _ (by simp at hw; omega) (by simp at hv; omega)
          go_round
          case rel => exact ⟨k + 1, by omega, by omega, by go_num, fun i hi => by rcases Nat.lt_or_ge i k with h | h; exact heq.out i h; exact (by omega : i = k) ▸ he⟩
          case measure => simp [intOf]; omega
      · go_wp2_with fail
        go_ret
        exact ⟨boolThat_mk (fun h => by have := of_decide_eq_true h; omega), rfl⟩
    · go_wp2_with fail
      go_ret
      exact ⟨boolThat_mk (fun h => rless_end (by omega) (of_decide_eq_true h) heq.out), rfl⟩
end Go.Proofs.Qxb6001311a
