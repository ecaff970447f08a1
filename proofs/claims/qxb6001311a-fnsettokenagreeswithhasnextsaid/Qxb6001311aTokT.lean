import Derived.Test.Qxb6001311aTok
namespace Go.Proofs.Qxb6001311a
open Go.RowKit

set_option maxHeartbeats 1000000 in
theorem setTok_A (t : Int) (h1 : 1 ≤ t) (h2 : t < 9) (k wv ww st nx kt vf v : Int) (l ky ch : Bool) (w : World) :
    Calls Try.prog 23 #[.agg #[.int .i64 k, .bool l, .int .u64 wv, .int .i64 ww, .bool ky, .bool ch, .int .i64 st, .int .i64 nx, .int .u8 kt, .int .i64 vf, .int .i64 v], .int .u8 t] w fun e w' =>
      e = .returned (.agg #[.int .i64 1, .bool l, .int .u64 wv, .int .i64 t, .bool true, .bool ch, .int .i64 st, .int .i64 nx, .int .u8 kt, .int .i64 vf, .int .i64 v]) ∧ ∃ c1 c2 c3 c4 c5 c6 c7 : Array Value, w' = ((((((w.alloc (.cells c1 47)).alloc (.cells c2 47)).alloc (.cells c3 47)).alloc (.cells c4 40)).alloc (.cells c5 40)).alloc (.cells c6 40)).alloc (.cells c7 47) := by
  go_enter Try.func23, Try.ntmps23
  go_wp2_with (go_at_call 31; refine (toBranch_any _ _ _ _ _ _ _ _ _ _ _ _).mono ?_; rintro e w' ⟨rfl, o1, o2, rfl⟩)
  go_enter Try.func32, Try.ntmps32
  go_wp2
  go_end0
  go_wp2_with (go_at_call 33; refine (fromBranch_any _ _ _ _ _ _ _ _ _ _ _ _).mono ?_; rintro e w' ⟨rfl, o3, o4, rfl⟩)
  simp [bodyPost, results, Try.results23, go_sem]
  exact ⟨_, _, _, _, _, _, _, rfl⟩

set_option maxHeartbeats 1000000 in
theorem setTok_B (k wv ww st nx kt vf v : Int) (l ky ch : Bool) (w : World) :
    Calls Try.prog 23 #[.agg #[.int .i64 k, .bool l, .int .u64 wv, .int .i64 ww, .bool ky, .bool ch, .int .i64 st, .int .i64 nx, .int .u8 kt, .int .i64 vf, .int .i64 v], .int .u8 9] w fun e w' =>
      e = .returned (.agg #[.int .i64 1, .bool l, .int .u64 wv, .int .i64 8, .bool ky, .bool true, .int .i64 st, .int .i64 nx, .int .u8 kt, .int .i64 vf, .int .i64 v]) ∧ ∃ c1 c2 c3 c4 c5 c6 c7 : Array Value, w' = ((((((w.alloc (.cells c1 47)).alloc (.cells c2 47)).alloc (.cells c3 47)).alloc (.cells c4 40)).alloc (.cells c5 40)).alloc (.cells c6 40)).alloc (.cells c7 47) := by
  go_enter Try.func23, Try.ntmps23
  go_wp2_with (go_at_call 31; refine (toBranch_any _ _ _ _ _ _ _ _ _ _ _ _).mono ?_; rintro e w' ⟨rfl, o1, o2, rfl⟩)
  go_enter Try.func32, Try.ntmps32
  go_wp2
  go_end0
  go_wp2_with (go_at_call 33; refine (fromBranch_any _ _ _ _ _ _ _ _ _ _ _ _).mono ?_; rintro e w' ⟨rfl, o3, o4, rfl⟩)
  simp [bodyPost, results, Try.results23, go_sem]
  exact ⟨_, _, _, _, _, _, _, rfl⟩

set_option maxHeartbeats 1000000 in
theorem setTok_C (t : Int) (h1 : 11 ≤ t) (h2 : t < 19) (k wv ww st nx kt vf v : Int) (l ky ch : Bool) (w : World) :
    Calls Try.prog 23 #[.agg #[.int .i64 k, .bool l, .int .u64 wv, .int .i64 ww, .bool ky, .bool ch, .int .i64 st, .int .i64 nx, .int .u8 kt, .int .i64 vf, .int .i64 v], .int .u8 t] w fun e w' =>
      e = .returned (.agg #[.int .i64 1, .bool true, .int .u64 wv, .int .i64 (t - 11 + 1), .bool true, .bool ch, .int .i64 st, .int .i64 nx, .int .u8 kt, .int .i64 vf, .int .i64 v]) ∧ ∃ c1 c2 c3 c4 c5 c6 c7 : Array Value, w' = ((((((w.alloc (.cells c1 47)).alloc (.cells c2 47)).alloc (.cells c3 47)).alloc (.cells c4 40)).alloc (.cells c5 40)).alloc (.cells c6 40)).alloc (.cells c7 47) := by
  go_enter Try.func23, Try.ntmps23
  go_wp2_with (go_at_call 31; refine (toBranch_any _ _ _ _ _ _ _ _ _ _ _ _).mono ?_; rintro e w' ⟨rfl, o1, o2, rfl⟩)
  go_enter Try.func32, Try.ntmps32
  go_wp2
  go_end0
  go_wp2_with (go_at_call 33; refine (fromBranch_any _ _ _ _ _ _ _ _ _ _ _ _).mono ?_; rintro e w' ⟨rfl, o3, o4, rfl⟩)
  simp [bodyPost, results, Try.results23, go_sem]
  exact ⟨_, _, _, _, _, _, _, rfl⟩

set_option maxHeartbeats 1000000 in
theorem setTok_D (k wv ww st nx kt vf v : Int) (l ky ch : Bool) (w : World) :
    Calls Try.prog 23 #[.agg #[.int .i64 k, .bool l, .int .u64 wv, .int .i64 ww, .bool ky, .bool ch, .int .i64 st, .int .i64 nx, .int .u8 kt, .int .i64 vf, .int .i64 v], .int .u8 19] w fun e w' =>
      e = .returned (.agg #[.int .i64 1, .bool true, .int .u64 wv, .int .i64 8, .bool ky, .bool true, .int .i64 st, .int .i64 nx, .int .u8 kt, .int .i64 vf, .int .i64 v]) ∧ ∃ c1 c2 c3 c4 c5 c6 c7 : Array Value, w' = ((((((w.alloc (.cells c1 47)).alloc (.cells c2 47)).alloc (.cells c3 47)).alloc (.cells c4 40)).alloc (.cells c5 40)).alloc (.cells c6 40)).alloc (.cells c7 47) := by
  go_enter Try.func23, Try.ntmps23
  go_wp2_with (go_at_call 31; refine (toBranch_any _ _ _ _ _ _ _ _ _ _ _ _).mono ?_; rintro e w' ⟨rfl, o1, o2, rfl⟩)
  go_enter Try.func32, Try.ntmps32
  go_wp2
  go_end0
  go_wp2_with (go_at_call 33; refine (fromBranch_any _ _ _ _ _ _ _ _ _ _ _ _).mono ?_; rintro e w' ⟨rfl, o3, o4, rfl⟩)
  simp [bodyPost, results, Try.results23, go_sem]
  exact ⟨_, _, _, _, _, _, _, rfl⟩

set_option maxHeartbeats 1000000 in
theorem setTok_E (t : Int) (h1 : 21 ≤ t) (h2 : t < 29) (k wv ww st nx kt vf v : Int) (l ky ch : Bool) (w : World) :
    Calls Try.prog 23 #[.agg #[.int .i64 k, .bool l, .int .u64 wv, .int .i64 ww, .bool ky, .bool ch, .int .i64 st, .int .i64 nx, .int .u8 kt, .int .i64 vf, .int .i64 v], .int .u8 t] w fun e w' =>
      e = .returned (.agg #[.int .i64 2, .bool l, .int .u64 wv, .int .i64 (t - 21 + 1), .bool ky, .bool ch, .int .i64 st, .int .i64 nx, .int .u8 kt, .int .i64 vf, .int .i64 v]) ∧ ∃ c1 c2 c3 c4 c5 c6 c7 : Array Value, w' = ((((((w.alloc (.cells c1 47)).alloc (.cells c2 47)).alloc (.cells c3 47)).alloc (.cells c4 40)).alloc (.cells c5 40)).alloc (.cells c6 40)).alloc (.cells c7 47) := by
  go_enter Try.func23, Try.ntmps23
  go_wp2_with (go_at_call 31; refine (toBranch_any _ _ _ _ _ _ _ _ _ _ _ _).mono ?_; rintro e w' ⟨rfl, o1, o2, rfl⟩)
  go_enter Try.func32, Try.ntmps32
  go_wp2
  go_end0
  go_wp2_with (go_at_call 33; refine (fromBranch_any _ _ _ _ _ _ _ _ _ _ _ _).mono ?_; rintro e w' ⟨rfl, o3, o4, rfl⟩)
  simp [bodyPost, results, Try.results23, go_sem]
  exact ⟨_, _, _, _, _, _, _, rfl⟩

set_option maxHeartbeats 1000000 in
theorem setTok_F (k wv ww st nx kt vf v : Int) (l ky ch : Bool) (w : World) :
    Calls Try.prog 23 #[.agg #[.int .i64 k, .bool l, .int .u64 wv, .int .i64 ww, .bool ky, .bool ch, .int .i64 st, .int .i64 nx, .int .u8 kt, .int .i64 vf, .int .i64 v], .int .u8 30] w fun e w' =>
      e = .returned (.agg #[.int .i64 3, .bool l, .int .u64 wv, .int .i64 ww, .bool ky, .bool ch, .int .i64 st, .int .i64 nx, .int .u8 kt, .int .i64 vf, .int .i64 v]) ∧ ∃ c1 c2 c3 c4 c5 c6 c7 : Array Value, w' = ((((((w.alloc (.cells c1 47)).alloc (.cells c2 47)).alloc (.cells c3 47)).alloc (.cells c4 40)).alloc (.cells c5 40)).alloc (.cells c6 40)).alloc (.cells c7 47) := by
  go_enter Try.func23, Try.ntmps23
  go_wp2_with (go_at_call 31; refine (toBranch_any _ _ _ _ _ _ _ _ _ _ _ _).mono ?_; rintro e w' ⟨rfl, o1, o2, rfl⟩)
  go_enter Try.func32, Try.ntmps32
  go_wp2
  go_end0
  go_wp2_with (go_at_call 33; refine (fromBranch_any _ _ _ _ _ _ _ _ _ _ _ _).mono ?_; rintro e w' ⟨rfl, o3, o4, rfl⟩)
  simp [bodyPost, results, Try.results23, go_sem]
  exact ⟨_, _, _, _, _, _, _, rfl⟩

set_option maxHeartbeats 1000000 in
theorem setTok_G0 (k wv ww st nx kt vf v : Int) (l ky ch : Bool) (w : World) :
    Calls Try.prog 23 #[.agg #[.int .i64 k, .bool l, .int .u64 wv, .int .i64 ww, .bool ky, .bool ch, .int .i64 st, .int .i64 nx, .int .u8 kt, .int .i64 vf, .int .i64 v], .int .u8 0] w fun e w' =>
      e = .returned (.agg #[.int .i64 k, .bool l, .int .u64 wv, .int .i64 ww, .bool ky, .bool ch, .int .i64 st, .int .i64 nx, .int .u8 kt, .int .i64 vf, .int .i64 v]) ∧ ∃ c1 c2 c3 c4 c5 c6 c7 : Array Value, w' = ((((((w.alloc (.cells c1 47)).alloc (.cells c2 47)).alloc (.cells c3 47)).alloc (.cells c4 40)).alloc (.cells c5 40)).alloc (.cells c6 40)).alloc (.cells c7 47) := by
  go_enter Try.func23, Try.ntmps23
  go_wp2_with (go_at_call 31; refine (toBranch_any _ _ _ _ _ _ _ _ _ _ _ _).mono ?_; rintro e w' ⟨rfl, o1, o2, rfl⟩)
  go_enter Try.func32, Try.ntmps32
  go_wp2
  go_end0
  go_wp2_with (go_at_call 33; refine (fromBranch_any _ _ _ _ _ _ _ _ _ _ _ _).mono ?_; rintro e w' ⟨rfl, o3, o4, rfl⟩)
  simp [bodyPost, results, Try.results23, go_sem]
  exact ⟨_, _, _, _, _, _, _, rfl⟩

set_option maxHeartbeats 1000000 in
theorem setTok_G1 (k wv ww st nx kt vf v : Int) (l ky ch : Bool) (w : World) :
    Calls Try.prog 23 #[.agg #[.int .i64 k, .bool l, .int .u64 wv, .int .i64 ww, .bool ky, .bool ch, .int .i64 st, .int .i64 nx, .int .u8 kt, .int .i64 vf, .int .i64 v], .int .u8 10] w fun e w' =>
      e = .returned (.agg #[.int .i64 k, .bool l, .int .u64 wv, .int .i64 ww, .bool ky, .bool ch, .int .i64 st, .int .i64 nx, .int .u8 kt, .int .i64 vf, .int .i64 v]) ∧ ∃ c1 c2 c3 c4 c5 c6 c7 : Array Value, w' = ((((((w.alloc (.cells c1 47)).alloc (.cells c2 47)).alloc (.cells c3 47)).alloc (.cells c4 40)).alloc (.cells c5 40)).alloc (.cells c6 40)).alloc (.cells c7 47) := by
  go_enter Try.func23, Try.ntmps23
  go_wp2_with (go_at_call 31; refine (toBranch_any _ _ _ _ _ _ _ _ _ _ _ _).mono ?_; rintro e w' ⟨rfl, o1, o2, rfl⟩)
  go_enter Try.func32, Try.ntmps32
  go_wp2
  go_end0
  go_wp2_with (go_at_call 33; refine (fromBranch_any _ _ _ _ _ _ _ _ _ _ _ _).mono ?_; rintro e w' ⟨rfl, o3, o4, rfl⟩)
  simp [bodyPost, results, Try.results23, go_sem]
  exact ⟨_, _, _, _, _, _, _, rfl⟩

set_option maxHeartbeats 1000000 in
theorem setTok_G2 (k wv ww st nx kt vf v : Int) (l ky ch : Bool) (w : World) :
    Calls Try.prog 23 #[.agg #[.int .i64 k, .bool l, .int .u64 wv, .int .i64 ww, .bool ky, .bool ch, .int .i64 st, .int .i64 nx, .int .u8 kt, .int .i64 vf, .int .i64 v], .int .u8 20] w fun e w' =>
      e = .returned (.agg #[.int .i64 k, .bool l, .int .u64 wv, .int .i64 ww, .bool ky, .bool ch, .int .i64 st, .int .i64 nx, .int .u8 kt, .int .i64 vf, .int .i64 v]) ∧ ∃ c1 c2 c3 c4 c5 c6 c7 : Array Value, w' = ((((((w.alloc (.cells c1 47)).alloc (.cells c2 47)).alloc (.cells c3 47)).alloc (.cells c4 40)).alloc (.cells c5 40)).alloc (.cells c6 40)).alloc (.cells c7 47) := by
  go_enter Try.func23, Try.ntmps23
  go_wp2_with (go_at_call 31; refine (toBranch_any _ _ _ _ _ _ _ _ _ _ _ _).mono ?_; rintro e w' ⟨rfl, o1, o2, rfl⟩)
  go_enter Try.func32, Try.ntmps32
  go_wp2
  go_end0
  go_wp2_with (go_at_call 33; refine (fromBranch_any _ _ _ _ _ _ _ _ _ _ _ _).mono ?_; rintro e w' ⟨rfl, o3, o4, rfl⟩)
  simp [bodyPost, results, Try.results23, go_sem]
  exact ⟨_, _, _, _, _, _, _, rfl⟩

set_option maxHeartbeats 1000000 in
theorem setTok_G3 (k wv ww st nx kt vf v : Int) (l ky ch : Bool) (w : World) :
    Calls Try.prog 23 #[.agg #[.int .i64 k, .bool l, .int .u64 wv, .int .i64 ww, .bool ky, .bool ch, .int .i64 st, .int .i64 nx, .int .u8 kt, .int .i64 vf, .int .i64 v], .int .u8 29] w fun e w' =>
      e = .returned (.agg #[.int .i64 k, .bool l, .int .u64 wv, .int .i64 ww, .bool ky, .bool ch, .int .i64 st, .int .i64 nx, .int .u8 kt, .int .i64 vf, .int .i64 v]) ∧ ∃ c1 c2 c3 c4 c5 c6 c7 : Array Value, w' = ((((((w.alloc (.cells c1 47)).alloc (.cells c2 47)).alloc (.cells c3 47)).alloc (.cells c4 40)).alloc (.cells c5 40)).alloc (.cells c6 40)).alloc (.cells c7 47) := by
  go_enter Try.func23, Try.ntmps23
  go_wp2_with (go_at_call 31; refine (toBranch_any _ _ _ _ _ _ _ _ _ _ _ _).mono ?_; rintro e w' ⟨rfl, o1, o2, rfl⟩)
  go_enter Try.func32, Try.ntmps32
  go_wp2
  go_end0
  go_wp2_with (go_at_call 33; refine (fromBranch_any _ _ _ _ _ _ _ _ _ _ _ _).mono ?_; rintro e w' ⟨rfl, o3, o4, rfl⟩)
  simp [bodyPost, results, Try.results23, go_sem]
  exact ⟨_, _, _, _, _, _, _, rfl⟩

set_option maxHeartbeats 1000000 in
theorem setTok_G4 (t : Int) (h1 : 31 ≤ t) (h2 : t ≤ 255) (k wv ww st nx kt vf v : Int) (l ky ch : Bool) (w : World) :
    Calls Try.prog 23 #[.agg #[.int .i64 k, .bool l, .int .u64 wv, .int .i64 ww, .bool ky, .bool ch, .int .i64 st, .int .i64 nx, .int .u8 kt, .int .i64 vf, .int .i64 v], .int .u8 t] w fun e w' =>
      e = .returned (.agg #[.int .i64 k, .bool l, .int .u64 wv, .int .i64 ww, .bool ky, .bool ch, .int .i64 st, .int .i64 nx, .int .u8 kt, .int .i64 vf, .int .i64 v]) ∧ ∃ c1 c2 c3 c4 c5 c6 c7 : Array Value, w' = ((((((w.alloc (.cells c1 47)).alloc (.cells c2 47)).alloc (.cells c3 47)).alloc (.cells c4 40)).alloc (.cells c5 40)).alloc (.cells c6 40)).alloc (.cells c7 47) := by
  go_enter Try.func23, Try.ntmps23
  go_wp2_with (go_at_call 31; refine (toBranch_any _ _ _ _ _ _ _ _ _ _ _ _).mono ?_; rintro e w' ⟨rfl, o1, o2, rfl⟩)
  go_enter Try.func32, Try.ntmps32
  go_wp2
  go_end0
  go_wp2_with (go_at_call 33; refine (fromBranch_any _ _ _ _ _ _ _ _ _ _ _ _).mono ?_; rintro e w' ⟨rfl, o3, o4, rfl⟩)
  simp [bodyPost, results, Try.results23, go_sem]
  exact ⟨_, _, _, _, _, _, _, rfl⟩
end Go.Proofs.Qxb6001311a
