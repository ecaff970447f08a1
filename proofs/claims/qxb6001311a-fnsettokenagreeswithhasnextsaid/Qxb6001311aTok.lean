/- The walks of the token functions. -/
import Derived.Test.Qxb6001311aRows
import Derived.WalkKit
import Derived.WalkSpells
import Derived.WalkLawsBesides
import Derived.RowKit3
namespace Go.Proofs.Qxb6001311a
open Go.RowKit

set_option maxHeartbeats 400000 in
theorem toShim_any (k wv ww st nx kt vf v : Int) (l ky ch : Bool) (w : World) :
    Calls Try.prog 22 #[.agg #[.int .i64 k, .bool l, .int .u64 wv, .int .i64 ww, .bool ky, .bool ch, .int .i64 st, .int .i64 nx, .int .u8 kt, .int .i64 vf, .int .i64 v]] w fun e w' =>
      e = .returned (.agg #[.int .i64 k, .bool l, .int .u64 wv, .int .i64 ww, .bool ky, .bool ch, .int .i64 st, .int .i64 nx, .int .u8 kt, .int .i64 vf, .int .i64 v]) ∧ ∃ c1 c2 : Array Value, w' = (w.alloc (.cells c1 45)).alloc (.cells c2 47) := by
  go_enter Try.func22, Try.ntmps22
  go_wp2
  simp [bodyPost, results, Try.results22, go_sem]
  exact ⟨_, _, rfl⟩

set_option maxHeartbeats 400000 in
theorem clear_any (k wv ww st nx kt vf v : Int) (l ky ch : Bool) (w : World) :
    Calls Try.prog 24 #[.agg #[.int .i64 k, .bool l, .int .u64 wv, .int .i64 ww, .bool ky, .bool ch, .int .i64 st, .int .i64 nx, .int .u8 kt, .int .i64 vf, .int .i64 v]] w fun e w' =>
      e = .returned (.agg #[.int .i64 0, .bool false, .int .u64 wv, .int .i64 0, .bool false, .bool false, .int .i64 st, .int .i64 nx, .int .u8 kt, .int .i64 vf, .int .i64 v]) ∧ ∃ c1 c2 : Array Value, w' = (w.alloc (.cells c1 47)).alloc (.cells c2 47) := by
  go_enter Try.func24, Try.ntmps24
  go_wp2
  simp [bodyPost, results, Try.results24, go_sem]
  exact ⟨_, _, rfl⟩

set_option maxHeartbeats 400000 in
theorem toBranch_any (k wv ww st nx kt vf v : Int) (l ky ch : Bool) (w : World) :
    Calls Try.prog 31 #[.agg #[.int .i64 k, .bool l, .int .u64 wv, .int .i64 ww, .bool ky, .bool ch, .int .i64 st, .int .i64 nx, .int .u8 kt, .int .i64 vf, .int .i64 v]] w fun e w' =>
      e = .returned (.agg #[.int .i64 k, .bool l, .int .u64 wv, .int .i64 ww, .bool ky, .bool ch, .int .i64 st, .int .i64 nx, .int .u8 kt, .int .i64 vf, .int .i64 v]) ∧ ∃ c1 c2 : Array Value, w' = (w.alloc (.cells c1 47)).alloc (.cells c2 40) := by
  go_enter Try.func31, Try.ntmps31
  go_wp2
  simp [bodyPost, results, Try.results31, go_sem]
  exact ⟨_, _, rfl⟩

set_option maxHeartbeats 400000 in
theorem fromBranch_any (k wv ww st nx kt vf v : Int) (l ky ch : Bool) (w : World) :
    Calls Try.prog 33 #[.agg #[.int .i64 k, .bool l, .int .u64 wv, .int .i64 ww, .bool ky, .bool ch, .int .i64 st, .int .i64 nx, .int .u8 kt, .int .i64 vf, .int .i64 v]] w fun e w' =>
      e = .returned (.agg #[.int .i64 k, .bool l, .int .u64 wv, .int .i64 ww, .bool ky, .bool ch, .int .i64 st, .int .i64 nx, .int .u8 kt, .int .i64 vf, .int .i64 v]) ∧ ∃ c1 c2 : Array Value, w' = (w.alloc (.cells c1 40)).alloc (.cells c2 47) := by
  go_enter Try.func33, Try.ntmps33
  go_wp2
  simp [bodyPost, results, Try.results33, go_sem]
  exact ⟨_, _, rfl⟩

end Go.Proofs.Qxb6001311a
