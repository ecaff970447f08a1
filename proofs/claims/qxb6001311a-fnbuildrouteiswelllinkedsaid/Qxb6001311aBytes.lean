/- The walks of the four zzBytes functions, zzKeysBytes and zzCloneKeys. -/
import Derived.Test.Qxb6001311aOrder
import Derived.Laws.OwnMore
import Derived.Deep.OwnRows
namespace Go.Proofs.Qxb6001311a
open Go.RowKit

theorem ret_i64 {a b : Int} (h : a = b) : Ending.returned (.int .i64 a) = .returned (.int .i64 b) := by rw [h]
def tot (Xs : List ByteArray) : Nat := (Xs.map (·.size)).sum
theorem tot_take (Xs : List ByteArray) (k : Nat) (h : k < Xs.length) : tot (Xs.take (k + 1)) = tot (Xs.take k) + Xs[k].size := by
  unfold tot
  rw [List.take_succ_eq_append_getElem h, List.map_append, List.sum_append]
  simp
theorem mem_tot {Xs : List ByteArray} {X : ByteArray} (h : X ∈ Xs) : X.size ≤ tot Xs := by
  unfold tot
  induction Xs with
  | nil => cases h
  | cons Y Ys ih =>
    simp only [List.map_cons, List.sum_cons]
    rcases List.mem_cons.1 h with rfl | h
    · omega
    · have := ih h; omega
theorem tot_at (Xs : List ByteArray) (k : Nat) (h : k = Xs.length) : tot (Xs.take k) = tot Xs := by rw [h, List.take_length]
theorem tot_all (Xs : List ByteArray) : tot (Xs.take Xs.length) = tot Xs := by rw [List.take_length]

set_option maxHeartbeats 1000000 in
theorem bytes10 (a0 : Option Addr) (b off cap : Nat) (Xs : List ByteArray) (w : World) (hK : KeysAt w a0 b off Xs) (hs : ∀ X ∈ Xs, X.size ≤ maxLen) (hn : Xs.length ≤ maxLen) :
    Calls Try.prog 10 #[.slice a0 Xs.length cap] w fun e w' => BoolThat (Xs.length + tot Xs ≤ 1048576) e ∧ w' = w := by
  unfold maxLen at hn
  by_cases h0 : (1048576 : Int) < Xs.length
  · go_enter Try.func10, Try.ntmps10
    go_wp2
    go_ret
    exact ⟨boolThat_mk (fun h => by simp at h), rfl⟩
  · go_enter Try.func10, Try.ntmps10
    go_wp2
    go_loop [3, 4] (fun z i => ∃ k : Nat, k ≤ Xs.length ∧ i = .int .i64 k ∧ z = .int .i64 ((Xs.length + tot (Xs.take k) : Nat) : Int) ∧ Xs.length + tot (Xs.take k) ≤ 1048576) (fun _ i => Xs.length - (intOf i).toNat)
    case atStart => exact ⟨0, by omega, rfl, by simp [tot], by simp [tot]; omega⟩
    case round =>
      obtain ⟨k, hk, rfl, rfl, hz⟩ := hrel
      by_cases h1 : k < Xs.length
      · obtain ⟨rfl, hb⟩ := hK.addr (by omega)
        have c1 := hK.get k h1
        have z1 := hs _ (List.getElem_mem h1)
        unfold maxLen at z1
        have HT : Hid (tot (Xs.take (k + 1)) = tot (Xs.take k) + Xs[k].size) := tot_take Xs k h1
        by_cases h2 : (1048576 : Int) < Xs[k].size
        · go_wp2
          go_ret
          exact ⟨boolThat_mk (fun h => by simp at h), rfl⟩
        · go_wp2
          · go_ret
            exact ⟨boolThat_mk (fun h => by simp at h), rfl⟩
          · go_round
            case rel => exact ⟨k + 1, by omega, by go_num, i64_eq (by rw [HT.out]; omega), by rw [HT.out]; omega⟩
            case measure => simp [intOf]; omega
      · go_wp2
        go_ret
        exact ⟨boolThat_mk (fun _ => by have he := tot_at Xs k (by omega); omega), rfl⟩

set_option maxHeartbeats 1000000 in
theorem bytes17 (a0 : Option Addr) (b off cap : Nat) (Xs : List ByteArray) (w : World) (hK : KeysAt w a0 b off Xs) (hs : ∀ X ∈ Xs, X.size ≤ maxLen) (hn : Xs.length ≤ maxLen) :
    Calls Try.prog 17 #[.slice a0 Xs.length cap] w fun e w' => BoolThat (Xs.length + tot Xs ≤ 1048576) e ∧ w' = w := by
  unfold maxLen at hn
  by_cases h0 : (1048576 : Int) < Xs.length
  · go_enter Try.func17, Try.ntmps17
    go_wp2
    go_ret
    exact ⟨boolThat_mk (fun h => by simp at h), rfl⟩
  · go_enter Try.func17, Try.ntmps17
    go_wp2
    go_loop [3, 4] (fun z i => ∃ k : Nat, k ≤ Xs.length ∧ i = .int .i64 k ∧ z = .int .i64 ((Xs.length + tot (Xs.take k) : Nat) : Int) ∧ Xs.length + tot (Xs.take k) ≤ 1048576) (fun _ i => Xs.length - (intOf i).toNat)
    case atStart => exact ⟨0, by omega, rfl, by simp [tot], by simp [tot]; omega⟩
    case round =>
      obtain ⟨k, hk, rfl, rfl, hz⟩ := hrel
      by_cases h1 : k < Xs.length
      · obtain ⟨rfl, hb⟩ := hK.addr (by omega)
        have c1 := hK.get k h1
        have z1 := hs _ (List.getElem_mem h1)
        unfold maxLen at z1
        have HT : Hid (tot (Xs.take (k + 1)) = tot (Xs.take k) + Xs[k].size) := tot_take Xs k h1
        by_cases h2 : (1048576 : Int) < Xs[k].size
        · go_wp2
          go_ret
          exact ⟨boolThat_mk (fun h => by simp at h), rfl⟩
        · go_wp2
          · go_ret
            exact ⟨boolThat_mk (fun h => by simp at h), rfl⟩
          · go_round
            case rel => exact ⟨k + 1, by omega, by go_num, i64_eq (by rw [HT.out]; omega), by rw [HT.out]; omega⟩
            case measure => simp [intOf]; omega
      · go_wp2
        go_ret
        exact ⟨boolThat_mk (fun _ => by have he := tot_at Xs k (by omega); omega), rfl⟩

set_option maxHeartbeats 1000000 in
theorem bytes19 (a0 : Option Addr) (b off cap : Nat) (Xs : List ByteArray) (w : World) (hK : KeysAt w a0 b off Xs) (hs : ∀ X ∈ Xs, X.size ≤ maxLen) (hn : Xs.length ≤ maxLen) :
    Calls Try.prog 19 #[.slice a0 Xs.length cap] w fun e w' => BoolThat (Xs.length + tot Xs ≤ 1048576) e ∧ w' = w := by
  unfold maxLen at hn
  by_cases h0 : (1048576 : Int) < Xs.length
  · go_enter Try.func19, Try.ntmps19
    go_wp2
    go_ret
    exact ⟨boolThat_mk (fun h => by simp at h), rfl⟩
  · go_enter Try.func19, Try.ntmps19
    go_wp2
    go_loop [3, 4] (fun z i => ∃ k : Nat, k ≤ Xs.length ∧ i = .int .i64 k ∧ z = .int .i64 ((Xs.length + tot (Xs.take k) : Nat) : Int) ∧ Xs.length + tot (Xs.take k) ≤ 1048576) (fun _ i => Xs.length - (intOf i).toNat)
    case atStart => exact ⟨0, by omega, rfl, by simp [tot], by simp [tot]; omega⟩
    case round =>
      obtain ⟨k, hk, rfl, rfl, hz⟩ := hrel
      by_cases h1 : k < Xs.length
      · obtain ⟨rfl, hb⟩ := hK.addr (by omega)
        have c1 := hK.get k h1
        have z1 := hs _ (List.getElem_mem h1)
        unfold maxLen at z1
        have HT : Hid (tot (Xs.take (k + 1)) = tot (Xs.take k) + Xs[k].size) := tot_take Xs k h1
        by_cases h2 : (1048576 : Int) < Xs[k].size
        · go_wp2
          go_ret
          exact ⟨boolThat_mk (fun h => by simp at h), rfl⟩
        · go_wp2
          · go_ret
            exact ⟨boolThat_mk (fun h => by simp at h), rfl⟩
          · go_round
            case rel => exact ⟨k + 1, by omega, by go_num, i64_eq (by rw [HT.out]; omega), by rw [HT.out]; omega⟩
            case measure => simp [intOf]; omega
      · go_wp2
        go_ret
        exact ⟨boolThat_mk (fun _ => by have he := tot_at Xs k (by omega); omega), rfl⟩

set_option maxHeartbeats 1000000 in
theorem bytes16 (a0 : Option Addr) (b off cap : Nat) (Xs : List ByteArray) (P : ByteArray) (w : World) (hK : KeysAt w a0 b off Xs) (hs : ∀ X ∈ Xs, X.size ≤ maxLen) (hn : Xs.length ≤ maxLen) (hP : P.size ≤ maxLen) :
    Calls Try.prog 16 #[.slice a0 Xs.length cap, .string P] w fun e w' => BoolThat (Xs.length + tot Xs + P.size ≤ 1048576) e ∧ w' = w := by
  unfold maxLen at hn hP
  by_cases h0 : (1048576 : Int) < Xs.length
  · go_enter Try.func16, Try.ntmps16
    go_wp2
    go_ret
    exact ⟨boolThat_mk (fun h => by simp at h), rfl⟩
  · go_enter Try.func16, Try.ntmps16
    go_wp2
    go_loop [5, 6] (fun z i => ∃ k : Nat, k ≤ Xs.length ∧ i = .int .i64 k ∧ z = .int .i64 ((Xs.length + tot (Xs.take k) : Nat) : Int) ∧ Xs.length + tot (Xs.take k) ≤ 1048576) (fun _ i => Xs.length - (intOf i).toNat)
    case atStart => exact ⟨0, by omega, rfl, by simp [tot], by simp [tot]; omega⟩
    case round =>
      obtain ⟨k, hk, rfl, rfl, hz⟩ := hrel
      by_cases h1 : k < Xs.length
      · obtain ⟨rfl, hb⟩ := hK.addr (by omega)
        have c1 := hK.get k h1
        have z1 := hs _ (List.getElem_mem h1)
        unfold maxLen at z1
        have HT : Hid (tot (Xs.take (k + 1)) = tot (Xs.take k) + Xs[k].size) := tot_take Xs k h1
        by_cases h2 : (1048576 : Int) < Xs[k].size
        · go_wp2
          go_ret
          exact ⟨boolThat_mk (fun h => by simp at h), rfl⟩
        · go_wp2
          · go_ret
            exact ⟨boolThat_mk (fun h => by simp at h), rfl⟩
          · go_round
            case rel => exact ⟨k + 1, by omega, by go_num, i64_eq (by rw [HT.out]; omega), by rw [HT.out]; omega⟩
            case measure => simp [intOf]; omega
      · by_cases h3 : (1048576 : Int) < P.size
        · go_wp2
          go_ret
          exact ⟨boolThat_mk (fun h => by simp at h), rfl⟩
        · go_wp2
          · go_ret
            exact ⟨boolThat_mk (fun h => by simp at h), rfl⟩
          · go_ret
            exact ⟨boolThat_mk (fun _ => by have he := tot_at Xs k (by omega); omega), rfl⟩

set_option maxHeartbeats 1000000 in
theorem keysBytes (a0 : Option Addr) (b off cap : Nat) (Xs : List ByteArray) (w : World) (hK : KeysAt w a0 b off Xs) (ht : Xs.length + tot Xs ≤ 1048576) :
    Calls Try.prog 11 #[.slice a0 Xs.length cap] w fun e w' => e = .returned (.int .i64 ((16 * Xs.length + tot Xs : Nat) : Int)) ∧ w' = w := by
  have hle : ∀ k, tot (Xs.take k) ≤ tot Xs := fun k => by
    have : tot Xs = tot (Xs.take k) + tot (Xs.drop k) := by
      unfold tot; rw [← List.sum_append, ← List.map_append, List.take_append_drop]
    omega
  go_enter Try.func11, Try.ntmps11
  go_wp2
  go_loop [3, 4] (fun z i => ∃ k : Nat, k ≤ Xs.length ∧ i = .int .i64 k ∧ z = .int .i64 ((16 * Xs.length + tot (Xs.take k) : Nat) : Int)) (fun _ i => Xs.length - (intOf i).toNat)
  case atStart => exact ⟨0, by omega, rfl, by simp [tot]⟩
  case round =>
    obtain ⟨k, hk, rfl, rfl⟩ := hrel
    have hk1 := hle k
    by_cases h1 : k < Xs.length
    · obtain ⟨rfl, hb⟩ := hK.addr (by omega)
      have c1 := hK.get k h1
      have z1 := mem_tot (List.getElem_mem h1)
      have HT : Hid (tot (Xs.take (k + 1)) = tot (Xs.take k) + Xs[k].size) := tot_take Xs k h1
      go_wp2
      go_round
      case rel => exact ⟨k + 1, by omega, by go_num, i64_eq (by rw [HT.out]; omega)⟩
      case measure => simp [intOf]; omega
    · go_wp2
      go_ret
      exact ⟨ret_i64 (by rw [← tot_all Xs, show Xs.length = k by omega]), rfl⟩
end Go.Proofs.Qxb6001311a
