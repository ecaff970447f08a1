import Derived.Test.Qxb6001311aTok
namespace Go.Proofs.Qxb6001311a
open Go.RowKit

theorem ret_u8_true {a b : Int} (h : a = b) : Ending.returned (.tuple #[.int .u8 a, .bool true]) = .returned (.tuple #[.int .u8 b, .bool true]) := by rw [h]

set_option maxHeartbeats 1000000 in
theorem enc_A (t : Int) (h1 : 1 ≤ t) (h2 : t < 9) (wv st nx kt vf v : Int) (w : World) :
    Calls Try.prog 25 #[.agg #[.int .i64 1, .bool false, .int .u64 wv, .int .i64 t, .bool true, .bool false, .int .i64 st, .int .i64 nx, .int .u8 kt, .int .i64 vf, .int .i64 v]] w fun e w' =>
      e = .returned (.tuple #[.int .u8 t, .bool true]) ∧ ∃ c1 : Array Value, w' = w.alloc (.cells c1 47) := by
  go_enter Try.func25, Try.ntmps25
  go_wp2
  go_ret2
  exact ⟨ret_u8_true (by omega), _, rfl⟩

set_option maxHeartbeats 1000000 in
theorem enc_C (t : Int) (h1 : 11 ≤ t) (h2 : t < 19) (wv st nx kt vf v : Int) (w : World) :
    Calls Try.prog 25 #[.agg #[.int .i64 1, .bool true, .int .u64 wv, .int .i64 (t - 11 + 1), .bool true, .bool false, .int .i64 st, .int .i64 nx, .int .u8 kt, .int .i64 vf, .int .i64 v]] w fun e w' =>
      e = .returned (.tuple #[.int .u8 t, .bool true]) ∧ ∃ c1 : Array Value, w' = w.alloc (.cells c1 47) := by
  go_enter Try.func25, Try.ntmps25
  go_wp2
  go_ret2
  exact ⟨ret_u8_true (by omega), _, rfl⟩

set_option maxHeartbeats 1000000 in
theorem enc_E (t : Int) (h1 : 21 ≤ t) (h2 : t < 29) (wv st nx kt vf v : Int) (w : World) :
    Calls Try.prog 25 #[.agg #[.int .i64 2, .bool false, .int .u64 wv, .int .i64 (t - 21 + 1), .bool false, .bool false, .int .i64 st, .int .i64 nx, .int .u8 kt, .int .i64 vf, .int .i64 v]] w fun e w' =>
      e = .returned (.tuple #[.int .u8 t, .bool true]) ∧ ∃ c1 : Array Value, w' = w.alloc (.cells c1 47) := by
  go_enter Try.func25, Try.ntmps25
  go_wp2
  go_ret2
  exact ⟨ret_u8_true (by omega), _, rfl⟩

set_option maxHeartbeats 1000000 in
theorem enc_B (wv st nx kt vf v : Int) (w : World) :
    Calls Try.prog 25 #[.agg #[.int .i64 1, .bool false, .int .u64 wv, .int .i64 8, .bool false, .bool true, .int .i64 st, .int .i64 nx, .int .u8 kt, .int .i64 vf, .int .i64 v]] w fun e w' =>
      e = .returned (.tuple #[.int .u8 9, .bool true]) ∧ ∃ c1 : Array Value, w' = w.alloc (.cells c1 47) := by
  go_enter Try.func25, Try.ntmps25
  go_wp2
  go_ret2
  exact ⟨rfl, _, rfl⟩

set_option maxHeartbeats 1000000 in
theorem enc_D (wv st nx kt vf v : Int) (w : World) :
    Calls Try.prog 25 #[.agg #[.int .i64 1, .bool true, .int .u64 wv, .int .i64 8, .bool false, .bool true, .int .i64 st, .int .i64 nx, .int .u8 kt, .int .i64 vf, .int .i64 v]] w fun e w' =>
      e = .returned (.tuple #[.int .u8 19, .bool true]) ∧ ∃ c1 : Array Value, w' = w.alloc (.cells c1 47) := by
  go_enter Try.func25, Try.ntmps25
  go_wp2
  go_ret2
  exact ⟨rfl, _, rfl⟩

set_option maxHeartbeats 1000000 in
theorem enc_F (wv st nx kt vf v : Int) (w : World) :
    Calls Try.prog 25 #[.agg #[.int .i64 3, .bool false, .int .u64 wv, .int .i64 0, .bool false, .bool false, .int .i64 st, .int .i64 nx, .int .u8 kt, .int .i64 vf, .int .i64 v]] w fun e w' =>
      e = .returned (.tuple #[.int .u8 30, .bool true]) ∧ ∃ c1 : Array Value, w' = w.alloc (.cells c1 47) := by
  go_enter Try.func25, Try.ntmps25
  go_wp2
  go_ret2
  exact ⟨rfl, _, rfl⟩
end Go.Proofs.Qxb6001311a
