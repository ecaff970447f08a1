import Derived.Test.Qxb6001311aTokT
namespace Go.Proofs.Qxb6001311a
open Go.RowKit

theorem ret_bool' {a b : Bool} (h : a = b) : Ending.returned (.bool a) = .returned (.bool b) := by rw [h]

set_option maxHeartbeats 1000000 in
theorem hasNext_eqNext (wv ww st nx kt vf v : Int) (ky ch : Bool) (w : World) :
    Calls Try.prog 26 #[.agg #[.int .i64 1, .bool false, .int .u64 wv, .int .i64 ww, .bool ky, .bool ch, .int .i64 st, .int .i64 nx, .int .u8 kt, .int .i64 vf, .int .i64 v]] w fun e w' =>
      e = .returned (.bool true) ∧ ∃ c1 c2 c3 c4 : Array Value, w' = (((w.alloc (.cells c1 47)).alloc (.cells c2 47)).alloc (.cells c3 40)).alloc (.cells c4 40) := by
  go_enter Try.func26, Try.ntmps26
  go_wp2_with (go_at_call 31; refine (toBranch_any _ _ _ _ _ _ _ _ _ _ _ _).mono ?_; rintro e w' ⟨rfl, o1, o2, rfl⟩)
  go_enter Try.func34, Try.ntmps34
  go_wp2
  go_ret
  exact ⟨rfl, _, _, _, _, rfl⟩

set_option maxHeartbeats 1000000 in
theorem hasNext_eqLast (wv ww st nx kt vf v : Int) (ky ch : Bool) (w : World) :
    Calls Try.prog 26 #[.agg #[.int .i64 1, .bool true, .int .u64 wv, .int .i64 ww, .bool ky, .bool ch, .int .i64 st, .int .i64 nx, .int .u8 kt, .int .i64 vf, .int .i64 v]] w fun e w' =>
      e = .returned (.bool false) ∧ ∃ c1 c2 c3 c4 : Array Value, w' = (((w.alloc (.cells c1 47)).alloc (.cells c2 47)).alloc (.cells c3 40)).alloc (.cells c4 40) := by
  go_enter Try.func26, Try.ntmps26
  go_wp2_with (go_at_call 31; refine (toBranch_any _ _ _ _ _ _ _ _ _ _ _ _).mono ?_; rintro e w' ⟨rfl, o1, o2, rfl⟩)
  go_enter Try.func34, Try.ntmps34
  go_wp2
  go_ret
  exact ⟨rfl, _, _, _, _, rfl⟩

set_option maxHeartbeats 1000000 in
theorem hasNext_lt (wv ww st nx kt vf v : Int) (ky ch : Bool) (w : World) :
    Calls Try.prog 26 #[.agg #[.int .i64 2, .bool false, .int .u64 wv, .int .i64 ww, .bool ky, .bool ch, .int .i64 st, .int .i64 nx, .int .u8 kt, .int .i64 vf, .int .i64 v]] w fun e w' =>
      e = .returned (.bool true) ∧ ∃ c1 c2 c3 c4 : Array Value, w' = (((w.alloc (.cells c1 47)).alloc (.cells c2 47)).alloc (.cells c3 40)).alloc (.cells c4 40) := by
  go_enter Try.func26, Try.ntmps26
  go_wp2_with (go_at_call 31; refine (toBranch_any _ _ _ _ _ _ _ _ _ _ _ _).mono ?_; rintro e w' ⟨rfl, o1, o2, rfl⟩)
  go_enter Try.func34, Try.ntmps34
  go_wp2
  go_ret
  exact ⟨rfl, _, _, _, _, rfl⟩

set_option maxHeartbeats 1000000 in
theorem hasNext_le (wv ww st nx kt vf v : Int) (ky ch : Bool) (w : World) :
    Calls Try.prog 26 #[.agg #[.int .i64 3, .bool false, .int .u64 wv, .int .i64 ww, .bool ky, .bool ch, .int .i64 st, .int .i64 nx, .int .u8 kt, .int .i64 vf, .int .i64 v]] w fun e w' =>
      e = .returned (.bool false) ∧ ∃ c1 c2 c3 c4 : Array Value, w' = (((w.alloc (.cells c1 47)).alloc (.cells c2 47)).alloc (.cells c3 40)).alloc (.cells c4 40) := by
  go_enter Try.func26, Try.ntmps26
  go_wp2_with (go_at_call 31; refine (toBranch_any _ _ _ _ _ _ _ _ _ _ _ _).mono ?_; rintro e w' ⟨rfl, o1, o2, rfl⟩)
  go_enter Try.func34, Try.ntmps34
  go_wp2
  go_ret
  exact ⟨rfl, _, _, _, _, rfl⟩

set_option maxHeartbeats 1000000 in
theorem hasNext_no (wv ww st nx kt vf v : Int) (ky ch : Bool) (w : World) :
    Calls Try.prog 26 #[.agg #[.int .i64 0, .bool false, .int .u64 wv, .int .i64 ww, .bool ky, .bool ch, .int .i64 st, .int .i64 nx, .int .u8 kt, .int .i64 vf, .int .i64 v]] w fun e w' =>
      e = .returned (.bool false) ∧ ∃ c1 c2 c3 c4 : Array Value, w' = (((w.alloc (.cells c1 47)).alloc (.cells c2 47)).alloc (.cells c3 40)).alloc (.cells c4 40) := by
  go_enter Try.func26, Try.ntmps26
  go_wp2_with (go_at_call 31; refine (toBranch_any _ _ _ _ _ _ _ _ _ _ _ _).mono ?_; rintro e w' ⟨rfl, o1, o2, rfl⟩)
  go_enter Try.func34, Try.ntmps34
  go_wp2
  go_ret
  exact ⟨rfl, _, _, _, _, rfl⟩

set_option maxHeartbeats 1000000 in
theorem agr_A (t : Int) (h1 : 1 ≤ t) (h2 : t < 9) (k wv ww st nx kt vf v : Int) (l ky ch : Bool) (w : World) :
    Calls Try.prog 9 #[.agg #[.int .i64 k, .bool l, .int .u64 wv, .int .i64 ww, .bool ky, .bool ch, .int .i64 st, .int .i64 nx, .int .u8 kt, .int .i64 vf, .int .i64 v], .int .u8 t] w fun e w' => e = .returned (.bool true) ∧ Grown w w' := by
  go_enter Try.func9, Try.ntmps9
  go_wp2_with (first
    | (go_at_call 22; refine (toShim_any _ _ _ _ _ _ _ _ _ _ _ _).mono ?_; rintro e w' ⟨rfl, o1, o2, rfl⟩)
    | (go_at_call 24; refine (clear_any _ _ _ _ _ _ _ _ _ _ _ _).mono ?_; rintro e w' ⟨rfl, o3, o4, rfl⟩)
    | (go_at_call 23; refine (setTok_A t h1 h2 _ _ _ _ _ _ _ _ _ _ _ _).mono ?_; rintro e w' ⟨rfl, p1, p2, p3, p4, p5, p6, p7, rfl⟩)
    | (go_at_call 26; refine (hasNext_eqNext _ _ _ _ _ _ _ _ _ _).mono ?_; rintro e w' ⟨rfl, q1, q2, q3, q4, rfl⟩))
  all_goals
    go_ret
    refine ⟨?_, ((((((((((((((((((Grown.refl _).alloc _ _).alloc _ _).alloc _ _).alloc _ _).alloc _ _).alloc _ _).alloc _ _).alloc _ _).alloc _ _).alloc _ _).alloc _ _).alloc _ _).alloc _ _).alloc _ _).alloc _ _).alloc _ _).alloc _ _).alloc _ _⟩
    first | rfl | exact ret_bool' (by simp; omega)

set_option maxHeartbeats 1000000 in
theorem agr_B (k wv ww st nx kt vf v : Int) (l ky ch : Bool) (w : World) :
    Calls Try.prog 9 #[.agg #[.int .i64 k, .bool l, .int .u64 wv, .int .i64 ww, .bool ky, .bool ch, .int .i64 st, .int .i64 nx, .int .u8 kt, .int .i64 vf, .int .i64 v], .int .u8 9] w fun e w' => e = .returned (.bool true) ∧ Grown w w' := by
  go_enter Try.func9, Try.ntmps9
  go_wp2_with (first
    | (go_at_call 22; refine (toShim_any _ _ _ _ _ _ _ _ _ _ _ _).mono ?_; rintro e w' ⟨rfl, o1, o2, rfl⟩)
    | (go_at_call 24; refine (clear_any _ _ _ _ _ _ _ _ _ _ _ _).mono ?_; rintro e w' ⟨rfl, o3, o4, rfl⟩)
    | (go_at_call 23; refine (setTok_B _ _ _ _ _ _ _ _ _ _ _ _).mono ?_; rintro e w' ⟨rfl, p1, p2, p3, p4, p5, p6, p7, rfl⟩)
    | (go_at_call 26; refine (hasNext_eqNext _ _ _ _ _ _ _ _ _ _).mono ?_; rintro e w' ⟨rfl, q1, q2, q3, q4, rfl⟩))
  all_goals
    go_ret
    refine ⟨?_, ((((((((((((((((((Grown.refl _).alloc _ _).alloc _ _).alloc _ _).alloc _ _).alloc _ _).alloc _ _).alloc _ _).alloc _ _).alloc _ _).alloc _ _).alloc _ _).alloc _ _).alloc _ _).alloc _ _).alloc _ _).alloc _ _).alloc _ _).alloc _ _⟩
    first | rfl | exact ret_bool' (by simp; omega)

set_option maxHeartbeats 1000000 in
theorem agr_C (t : Int) (h1 : 11 ≤ t) (h2 : t < 19) (k wv ww st nx kt vf v : Int) (l ky ch : Bool) (w : World) :
    Calls Try.prog 9 #[.agg #[.int .i64 k, .bool l, .int .u64 wv, .int .i64 ww, .bool ky, .bool ch, .int .i64 st, .int .i64 nx, .int .u8 kt, .int .i64 vf, .int .i64 v], .int .u8 t] w fun e w' => e = .returned (.bool true) ∧ Grown w w' := by
  go_enter Try.func9, Try.ntmps9
  go_wp2_with (first
    | (go_at_call 22; refine (toShim_any _ _ _ _ _ _ _ _ _ _ _ _).mono ?_; rintro e w' ⟨rfl, o1, o2, rfl⟩)
    | (go_at_call 24; refine (clear_any _ _ _ _ _ _ _ _ _ _ _ _).mono ?_; rintro e w' ⟨rfl, o3, o4, rfl⟩)
    | (go_at_call 23; refine (setTok_C t h1 h2 _ _ _ _ _ _ _ _ _ _ _ _).mono ?_; rintro e w' ⟨rfl, p1, p2, p3, p4, p5, p6, p7, rfl⟩)
    | (go_at_call 26; refine (hasNext_eqLast _ _ _ _ _ _ _ _ _ _).mono ?_; rintro e w' ⟨rfl, q1, q2, q3, q4, rfl⟩))
  all_goals
    go_ret
    refine ⟨?_, ((((((((((((((((((Grown.refl _).alloc _ _).alloc _ _).alloc _ _).alloc _ _).alloc _ _).alloc _ _).alloc _ _).alloc _ _).alloc _ _).alloc _ _).alloc _ _).alloc _ _).alloc _ _).alloc _ _).alloc _ _).alloc _ _).alloc _ _).alloc _ _⟩
    first | rfl | exact ret_bool' (by simp; omega)

set_option maxHeartbeats 1000000 in
theorem agr_D (k wv ww st nx kt vf v : Int) (l ky ch : Bool) (w : World) :
    Calls Try.prog 9 #[.agg #[.int .i64 k, .bool l, .int .u64 wv, .int .i64 ww, .bool ky, .bool ch, .int .i64 st, .int .i64 nx, .int .u8 kt, .int .i64 vf, .int .i64 v], .int .u8 19] w fun e w' => e = .returned (.bool true) ∧ Grown w w' := by
  go_enter Try.func9, Try.ntmps9
  go_wp2_with (first
    | (go_at_call 22; refine (toShim_any _ _ _ _ _ _ _ _ _ _ _ _).mono ?_; rintro e w' ⟨rfl, o1, o2, rfl⟩)
    | (go_at_call 24; refine (clear_any _ _ _ _ _ _ _ _ _ _ _ _).mono ?_; rintro e w' ⟨rfl, o3, o4, rfl⟩)
    | (go_at_call 23; refine (setTok_D _ _ _ _ _ _ _ _ _ _ _ _).mono ?_; rintro e w' ⟨rfl, p1, p2, p3, p4, p5, p6, p7, rfl⟩)
    | (go_at_call 26; refine (hasNext_eqLast _ _ _ _ _ _ _ _ _ _).mono ?_; rintro e w' ⟨rfl, q1, q2, q3, q4, rfl⟩))
  all_goals
    go_ret
    refine ⟨?_, ((((((((((((((((((Grown.refl _).alloc _ _).alloc _ _).alloc _ _).alloc _ _).alloc _ _).alloc _ _).alloc _ _).alloc _ _).alloc _ _).alloc _ _).alloc _ _).alloc _ _).alloc _ _).alloc _ _).alloc _ _).alloc _ _).alloc _ _).alloc _ _⟩
    first | rfl | exact ret_bool' (by simp; omega)

set_option maxHeartbeats 1000000 in
theorem agr_E (t : Int) (h1 : 21 ≤ t) (h2 : t < 29) (k wv ww st nx kt vf v : Int) (l ky ch : Bool) (w : World) :
    Calls Try.prog 9 #[.agg #[.int .i64 k, .bool l, .int .u64 wv, .int .i64 ww, .bool ky, .bool ch, .int .i64 st, .int .i64 nx, .int .u8 kt, .int .i64 vf, .int .i64 v], .int .u8 t] w fun e w' => e = .returned (.bool true) ∧ Grown w w' := by
  go_enter Try.func9, Try.ntmps9
  go_wp2_with (first
    | (go_at_call 22; refine (toShim_any _ _ _ _ _ _ _ _ _ _ _ _).mono ?_; rintro e w' ⟨rfl, o1, o2, rfl⟩)
    | (go_at_call 24; refine (clear_any _ _ _ _ _ _ _ _ _ _ _ _).mono ?_; rintro e w' ⟨rfl, o3, o4, rfl⟩)
    | (go_at_call 23; refine (setTok_E t h1 h2 _ _ _ _ _ _ _ _ _ _ _ _).mono ?_; rintro e w' ⟨rfl, p1, p2, p3, p4, p5, p6, p7, rfl⟩)
    | (go_at_call 26; refine (hasNext_lt _ _ _ _ _ _ _ _ _ _).mono ?_; rintro e w' ⟨rfl, q1, q2, q3, q4, rfl⟩))
  all_goals
    go_ret
    refine ⟨?_, ((((((((((((((((((Grown.refl _).alloc _ _).alloc _ _).alloc _ _).alloc _ _).alloc _ _).alloc _ _).alloc _ _).alloc _ _).alloc _ _).alloc _ _).alloc _ _).alloc _ _).alloc _ _).alloc _ _).alloc _ _).alloc _ _).alloc _ _).alloc _ _⟩
    first | rfl | exact ret_bool' (by simp; omega)

set_option maxHeartbeats 1000000 in
theorem agr_F (k wv ww st nx kt vf v : Int) (l ky ch : Bool) (w : World) :
    Calls Try.prog 9 #[.agg #[.int .i64 k, .bool l, .int .u64 wv, .int .i64 ww, .bool ky, .bool ch, .int .i64 st, .int .i64 nx, .int .u8 kt, .int .i64 vf, .int .i64 v], .int .u8 30] w fun e w' => e = .returned (.bool true) ∧ Grown w w' := by
  go_enter Try.func9, Try.ntmps9
  go_wp2_with (first
    | (go_at_call 22; refine (toShim_any _ _ _ _ _ _ _ _ _ _ _ _).mono ?_; rintro e w' ⟨rfl, o1, o2, rfl⟩)
    | (go_at_call 24; refine (clear_any _ _ _ _ _ _ _ _ _ _ _ _).mono ?_; rintro e w' ⟨rfl, o3, o4, rfl⟩)
    | (go_at_call 23; refine (setTok_F _ _ _ _ _ _ _ _ _ _ _ _).mono ?_; rintro e w' ⟨rfl, p1, p2, p3, p4, p5, p6, p7, rfl⟩)
    | (go_at_call 26; refine (hasNext_le _ _ _ _ _ _ _ _ _ _).mono ?_; rintro e w' ⟨rfl, q1, q2, q3, q4, rfl⟩))
  all_goals
    go_ret
    refine ⟨?_, ((((((((((((((((((Grown.refl _).alloc _ _).alloc _ _).alloc _ _).alloc _ _).alloc _ _).alloc _ _).alloc _ _).alloc _ _).alloc _ _).alloc _ _).alloc _ _).alloc _ _).alloc _ _).alloc _ _).alloc _ _).alloc _ _).alloc _ _).alloc _ _⟩
    first | rfl | exact ret_bool' (by simp; omega)

set_option maxHeartbeats 1000000 in
theorem agr_G0 (k wv ww st nx kt vf v : Int) (l ky ch : Bool) (w : World) :
    Calls Try.prog 9 #[.agg #[.int .i64 k, .bool l, .int .u64 wv, .int .i64 ww, .bool ky, .bool ch, .int .i64 st, .int .i64 nx, .int .u8 kt, .int .i64 vf, .int .i64 v], .int .u8 0] w fun e w' => e = .returned (.bool true) ∧ Grown w w' := by
  go_enter Try.func9, Try.ntmps9
  go_wp2_with (first
    | (go_at_call 22; refine (toShim_any _ _ _ _ _ _ _ _ _ _ _ _).mono ?_; rintro e w' ⟨rfl, o1, o2, rfl⟩)
    | (go_at_call 24; refine (clear_any _ _ _ _ _ _ _ _ _ _ _ _).mono ?_; rintro e w' ⟨rfl, o3, o4, rfl⟩)
    | (go_at_call 23; refine (setTok_G0 _ _ _ _ _ _ _ _ _ _ _ _).mono ?_; rintro e w' ⟨rfl, p1, p2, p3, p4, p5, p6, p7, rfl⟩)
    | (go_at_call 26; refine (hasNext_no _ _ _ _ _ _ _ _ _ _).mono ?_; rintro e w' ⟨rfl, q1, q2, q3, q4, rfl⟩))
  all_goals
    go_ret
    refine ⟨?_, ((((((((((((((((((Grown.refl _).alloc _ _).alloc _ _).alloc _ _).alloc _ _).alloc _ _).alloc _ _).alloc _ _).alloc _ _).alloc _ _).alloc _ _).alloc _ _).alloc _ _).alloc _ _).alloc _ _).alloc _ _).alloc _ _).alloc _ _).alloc _ _⟩
    first | rfl | exact ret_bool' (by simp; omega)

set_option maxHeartbeats 1000000 in
theorem agr_G1 (k wv ww st nx kt vf v : Int) (l ky ch : Bool) (w : World) :
    Calls Try.prog 9 #[.agg #[.int .i64 k, .bool l, .int .u64 wv, .int .i64 ww, .bool ky, .bool ch, .int .i64 st, .int .i64 nx, .int .u8 kt, .int .i64 vf, .int .i64 v], .int .u8 10] w fun e w' => e = .returned (.bool true) ∧ Grown w w' := by
  go_enter Try.func9, Try.ntmps9
  go_wp2_with (first
    | (go_at_call 22; refine (toShim_any _ _ _ _ _ _ _ _ _ _ _ _).mono ?_; rintro e w' ⟨rfl, o1, o2, rfl⟩)
    | (go_at_call 24; refine (clear_any _ _ _ _ _ _ _ _ _ _ _ _).mono ?_; rintro e w' ⟨rfl, o3, o4, rfl⟩)
    | (go_at_call 23; refine (setTok_G1 _ _ _ _ _ _ _ _ _ _ _ _).mono ?_; rintro e w' ⟨rfl, p1, p2, p3, p4, p5, p6, p7, rfl⟩)
    | (go_at_call 26; refine (hasNext_no _ _ _ _ _ _ _ _ _ _).mono ?_; rintro e w' ⟨rfl, q1, q2, q3, q4, rfl⟩))
  all_goals
    go_ret
    refine ⟨?_, ((((((((((((((((((Grown.refl _).alloc _ _).alloc _ _).alloc _ _).alloc _ _).alloc _ _).alloc _ _).alloc _ _).alloc _ _).alloc _ _).alloc _ _).alloc _ _).alloc _ _).alloc _ _).alloc _ _).alloc _ _).alloc _ _).alloc _ _).alloc _ _⟩
    first | rfl | exact ret_bool' (by simp; omega)

set_option maxHeartbeats 1000000 in
theorem agr_G2 (k wv ww st nx kt vf v : Int) (l ky ch : Bool) (w : World) :
    Calls Try.prog 9 #[.agg #[.int .i64 k, .bool l, .int .u64 wv, .int .i64 ww, .bool ky, .bool ch, .int .i64 st, .int .i64 nx, .int .u8 kt, .int .i64 vf, .int .i64 v], .int .u8 20] w fun e w' => e = .returned (.bool true) ∧ Grown w w' := by
  go_enter Try.func9, Try.ntmps9
  go_wp2_with (first
    | (go_at_call 22; refine (toShim_any _ _ _ _ _ _ _ _ _ _ _ _).mono ?_; rintro e w' ⟨rfl, o1, o2, rfl⟩)
    | (go_at_call 24; refine (clear_any _ _ _ _ _ _ _ _ _ _ _ _).mono ?_; rintro e w' ⟨rfl, o3, o4, rfl⟩)
    | (go_at_call 23; refine (setTok_G2 _ _ _ _ _ _ _ _ _ _ _ _).mono ?_; rintro e w' ⟨rfl, p1, p2, p3, p4, p5, p6, p7, rfl⟩)
    | (go_at_call 26; refine (hasNext_no _ _ _ _ _ _ _ _ _ _).mono ?_; rintro e w' ⟨rfl, q1, q2, q3, q4, rfl⟩))
  all_goals
    go_ret
    refine ⟨?_, ((((((((((((((((((Grown.refl _).alloc _ _).alloc _ _).alloc _ _).alloc _ _).alloc _ _).alloc _ _).alloc _ _).alloc _ _).alloc _ _).alloc _ _).alloc _ _).alloc _ _).alloc _ _).alloc _ _).alloc _ _).alloc _ _).alloc _ _).alloc _ _⟩
    first | rfl | exact ret_bool' (by simp; omega)

set_option maxHeartbeats 1000000 in
theorem agr_G3 (k wv ww st nx kt vf v : Int) (l ky ch : Bool) (w : World) :
    Calls Try.prog 9 #[.agg #[.int .i64 k, .bool l, .int .u64 wv, .int .i64 ww, .bool ky, .bool ch, .int .i64 st, .int .i64 nx, .int .u8 kt, .int .i64 vf, .int .i64 v], .int .u8 29] w fun e w' => e = .returned (.bool true) ∧ Grown w w' := by
  go_enter Try.func9, Try.ntmps9
  go_wp2_with (first
    | (go_at_call 22; refine (toShim_any _ _ _ _ _ _ _ _ _ _ _ _).mono ?_; rintro e w' ⟨rfl, o1, o2, rfl⟩)
    | (go_at_call 24; refine (clear_any _ _ _ _ _ _ _ _ _ _ _ _).mono ?_; rintro e w' ⟨rfl, o3, o4, rfl⟩)
    | (go_at_call 23; refine (setTok_G3 _ _ _ _ _ _ _ _ _ _ _ _).mono ?_; rintro e w' ⟨rfl, p1, p2, p3, p4, p5, p6, p7, rfl⟩)
    | (go_at_call 26; refine (hasNext_no _ _ _ _ _ _ _ _ _ _).mono ?_; rintro e w' ⟨rfl, q1, q2, q3, q4, rfl⟩))
  all_goals
    go_ret
    refine ⟨?_, ((((((((((((((((((Grown.refl _).alloc _ _).alloc _ _).alloc _ _).alloc _ _).alloc _ _).alloc _ _).alloc _ _).alloc _ _).alloc _ _).alloc _ _).alloc _ _).alloc _ _).alloc _ _).alloc _ _).alloc _ _).alloc _ _).alloc _ _).alloc _ _⟩
    first | rfl | exact ret_bool' (by simp; omega)

set_option maxHeartbeats 1000000 in
theorem agr_G4 (t : Int) (h1 : 31 ≤ t) (h2 : t ≤ 255) (k wv ww st nx kt vf v : Int) (l ky ch : Bool) (w : World) :
    Calls Try.prog 9 #[.agg #[.int .i64 k, .bool l, .int .u64 wv, .int .i64 ww, .bool ky, .bool ch, .int .i64 st, .int .i64 nx, .int .u8 kt, .int .i64 vf, .int .i64 v], .int .u8 t] w fun e w' => e = .returned (.bool true) ∧ Grown w w' := by
  go_enter Try.func9, Try.ntmps9
  go_wp2_with (first
    | (go_at_call 22; refine (toShim_any _ _ _ _ _ _ _ _ _ _ _ _).mono ?_; rintro e w' ⟨rfl, o1, o2, rfl⟩)
    | (go_at_call 24; refine (clear_any _ _ _ _ _ _ _ _ _ _ _ _).mono ?_; rintro e w' ⟨rfl, o3, o4, rfl⟩)
    | (go_at_call 23; refine (setTok_G4 t h1 h2 _ _ _ _ _ _ _ _ _ _ _ _).mono ?_; rintro e w' ⟨rfl, p1, p2, p3, p4, p5, p6, p7, rfl⟩)
    | (go_at_call 26; refine (hasNext_no _ _ _ _ _ _ _ _ _ _).mono ?_; rintro e w' ⟨rfl, q1, q2, q3, q4, rfl⟩))
  all_goals
    go_ret
    refine ⟨?_, ((((((((((((((((((Grown.refl _).alloc _ _).alloc _ _).alloc _ _).alloc _ _).alloc _ _).alloc _ _).alloc _ _).alloc _ _).alloc _ _).alloc _ _).alloc _ _).alloc _ _).alloc _ _).alloc _ _).alloc _ _).alloc _ _).alloc _ _).alloc _ _⟩
    first | rfl | exact ret_bool' (by simp; omega)
end Go.Proofs.Qxb6001311a
