import Derived.Test.Qxb6001311aTokT
import Derived.Test.Qxb6001311aTokE
import Derived.Deep.RegionHeld3
namespace Go.Proofs.Qxb6001311a
open Go.RowKit

theorem ret_bool {a b : Bool} (h : a = b) : Ending.returned (.bool a) = .returned (.bool b) := by rw [h]

set_option maxHeartbeats 400000 in
theorem starts_A (t : Int) (h1 : 1 ≤ t) (h2 : t < 9) (w : World) :
    Calls Try.prog 21 #[.int .u8 t] w fun e w' => e = .returned (.bool true) ∧ w' = w := by
  go_enter Try.func21, Try.ntmps21
  go_wp2
  go_ret
  exact ⟨ret_bool (by first | rfl | (simp; omega)), rfl⟩

set_option maxHeartbeats 1000000 in
theorem inv_A (t : Int) (h1 : 1 ≤ t) (h2 : t < 9) (k wv ww st nx kt vf v : Int) (l ky ch : Bool) (w : World) :
    Calls Try.prog 8 #[.agg #[.int .i64 k, .bool l, .int .u64 wv, .int .i64 ww, .bool ky, .bool ch, .int .i64 st, .int .i64 nx, .int .u8 kt, .int .i64 vf, .int .i64 v], .int .u8 t] w fun e w' => e = .returned (.bool true) ∧ Grown w w' := by
  go_enter Try.func8, Try.ntmps8
  go_wp2_with (first
    | (go_at_call 21; refine (starts_A t h1 h2 _).mono ?_; rintro e w' ⟨rfl, rfl⟩)
    | (go_at_call 22; refine (toShim_any _ _ _ _ _ _ _ _ _ _ _ _).mono ?_; rintro e w' ⟨rfl, o1, o2, rfl⟩)
    | (go_at_call 24; refine (clear_any _ _ _ _ _ _ _ _ _ _ _ _).mono ?_; rintro e w' ⟨rfl, o3, o4, rfl⟩)
    | (go_at_call 23; refine (setTok_A t h1 h2 _ _ _ _ _ _ _ _ _ _ _ _).mono ?_; rintro e w' ⟨rfl, p1, p2, p3, p4, p5, p6, p7, rfl⟩)
    | (go_at_call 25; refine (enc_A t h1 h2 _ _ _ _ _ _ _).mono ?_; rintro e w' ⟨rfl, o5, rfl⟩))
  go_region_held3 (fun w' => w'.cell? ⟨w.heap.size + 5, 0, none⟩ = some (.int .i64 0) ∧ w'.cell? ⟨w.heap.size + 5, 1, none⟩ = some (.bool false) ∧ w'.cell? ⟨w.heap.size + 5, 2, none⟩ = some (.int .u64 wv) ∧ w'.cell? ⟨w.heap.size + 5, 3, none⟩ = some (.int .i64 0) ∧ w'.cell? ⟨w.heap.size + 5, 4, none⟩ = some (.bool false) ∧ w'.cell? ⟨w.heap.size + 5, 5, none⟩ = some (.bool false) ∧ w'.cell? ⟨w.heap.size + 5, 6, none⟩ = some (.int .i64 st) ∧ w'.cell? ⟨w.heap.size + 5, 7, none⟩ = some (.int .i64 nx) ∧ w'.cell? ⟨w.heap.size + 5, 8, none⟩ = some (.int .u8 kt) ∧ w'.cell? ⟨w.heap.size + 5, 9, none⟩ = some (.int .i64 vf) ∧ w'.cell? ⟨w.heap.size + 5, 10, none⟩ = some (.int .i64 v) ∧ w'.cell? ⟨w.heap.size + 13, 0, none⟩ = some (.int .i64 1) ∧ w'.cell? ⟨w.heap.size + 13, 1, none⟩ = some (.bool false) ∧ w'.cell? ⟨w.heap.size + 13, 2, none⟩ = some (.int .u64 wv) ∧ w'.cell? ⟨w.heap.size + 13, 3, none⟩ = some (.int .i64 t) ∧ w'.cell? ⟨w.heap.size + 13, 4, none⟩ = some (.bool true) ∧ w'.cell? ⟨w.heap.size + 13, 5, none⟩ = some (.bool false) ∧ w'.cell? ⟨w.heap.size + 13, 6, none⟩ = some (.int .i64 st) ∧ w'.cell? ⟨w.heap.size + 13, 7, none⟩ = some (.int .i64 nx) ∧ w'.cell? ⟨w.heap.size + 13, 8, none⟩ = some (.int .u8 kt) ∧ w'.cell? ⟨w.heap.size + 13, 9, none⟩ = some (.int .i64 vf) ∧ w'.cell? ⟨w.heap.size + 13, 10, none⟩ = some (.int .i64 v)) (simp [go_sem, World.cell?_alloc_past])
    (first
      | (go_at_call 24; refine (clear_any _ _ _ _ _ _ _ _ _ _ _ _).mono ?_; rintro e w' ⟨rfl, o6, o7, rfl⟩))
  all_goals
    go_wp2
    go_ret
    exact ⟨rfl, (((((((((((((((((((Grown.refl _).alloc _ _).alloc _ _).alloc _ _).alloc _ _).alloc _ _).alloc _ _).alloc _ _).alloc _ _).alloc _ _).alloc _ _).alloc _ _).alloc _ _).alloc _ _).alloc _ _).alloc _ _).alloc _ _).alloc _ _).drew)⟩

set_option maxHeartbeats 400000 in
theorem starts_B (w : World) :
    Calls Try.prog 21 #[.int .u8 9] w fun e w' => e = .returned (.bool true) ∧ w' = w := by
  go_enter Try.func21, Try.ntmps21
  go_wp2
  go_ret
  exact ⟨ret_bool (by first | rfl | (simp; omega)), rfl⟩

set_option maxHeartbeats 1000000 in
theorem inv_B (k wv ww st nx kt vf v : Int) (l ky ch : Bool) (w : World) :
    Calls Try.prog 8 #[.agg #[.int .i64 k, .bool l, .int .u64 wv, .int .i64 ww, .bool ky, .bool ch, .int .i64 st, .int .i64 nx, .int .u8 kt, .int .i64 vf, .int .i64 v], .int .u8 9] w fun e w' => e = .returned (.bool true) ∧ Grown w w' := by
  go_enter Try.func8, Try.ntmps8
  go_wp2_with (first
    | (go_at_call 21; refine (starts_B _).mono ?_; rintro e w' ⟨rfl, rfl⟩)
    | (go_at_call 22; refine (toShim_any _ _ _ _ _ _ _ _ _ _ _ _).mono ?_; rintro e w' ⟨rfl, o1, o2, rfl⟩)
    | (go_at_call 24; refine (clear_any _ _ _ _ _ _ _ _ _ _ _ _).mono ?_; rintro e w' ⟨rfl, o3, o4, rfl⟩)
    | (go_at_call 23; refine (setTok_B _ _ _ _ _ _ _ _ _ _ _ _).mono ?_; rintro e w' ⟨rfl, p1, p2, p3, p4, p5, p6, p7, rfl⟩)
    | (go_at_call 25; refine (enc_B _ _ _ _ _ _ _).mono ?_; rintro e w' ⟨rfl, o5, rfl⟩))
  go_region_held3 (fun w' => w'.cell? ⟨w.heap.size + 5, 0, none⟩ = some (.int .i64 0) ∧ w'.cell? ⟨w.heap.size + 5, 1, none⟩ = some (.bool false) ∧ w'.cell? ⟨w.heap.size + 5, 2, none⟩ = some (.int .u64 wv) ∧ w'.cell? ⟨w.heap.size + 5, 3, none⟩ = some (.int .i64 0) ∧ w'.cell? ⟨w.heap.size + 5, 4, none⟩ = some (.bool false) ∧ w'.cell? ⟨w.heap.size + 5, 5, none⟩ = some (.bool false) ∧ w'.cell? ⟨w.heap.size + 5, 6, none⟩ = some (.int .i64 st) ∧ w'.cell? ⟨w.heap.size + 5, 7, none⟩ = some (.int .i64 nx) ∧ w'.cell? ⟨w.heap.size + 5, 8, none⟩ = some (.int .u8 kt) ∧ w'.cell? ⟨w.heap.size + 5, 9, none⟩ = some (.int .i64 vf) ∧ w'.cell? ⟨w.heap.size + 5, 10, none⟩ = some (.int .i64 v) ∧ w'.cell? ⟨w.heap.size + 13, 0, none⟩ = some (.int .i64 1) ∧ w'.cell? ⟨w.heap.size + 13, 1, none⟩ = some (.bool false) ∧ w'.cell? ⟨w.heap.size + 13, 2, none⟩ = some (.int .u64 wv) ∧ w'.cell? ⟨w.heap.size + 13, 3, none⟩ = some (.int .i64 8) ∧ w'.cell? ⟨w.heap.size + 13, 4, none⟩ = some (.bool false) ∧ w'.cell? ⟨w.heap.size + 13, 5, none⟩ = some (.bool true) ∧ w'.cell? ⟨w.heap.size + 13, 6, none⟩ = some (.int .i64 st) ∧ w'.cell? ⟨w.heap.size + 13, 7, none⟩ = some (.int .i64 nx) ∧ w'.cell? ⟨w.heap.size + 13, 8, none⟩ = some (.int .u8 kt) ∧ w'.cell? ⟨w.heap.size + 13, 9, none⟩ = some (.int .i64 vf) ∧ w'.cell? ⟨w.heap.size + 13, 10, none⟩ = some (.int .i64 v)) (simp [go_sem, World.cell?_alloc_past])
    (first
      | (go_at_call 24; refine (clear_any _ _ _ _ _ _ _ _ _ _ _ _).mono ?_; rintro e w' ⟨rfl, o6, o7, rfl⟩))
  all_goals
    go_wp2
    go_ret
    exact ⟨rfl, (((((((((((((((((((Grown.refl _).alloc _ _).alloc _ _).alloc _ _).alloc _ _).alloc _ _).alloc _ _).alloc _ _).alloc _ _).alloc _ _).alloc _ _).alloc _ _).alloc _ _).alloc _ _).alloc _ _).alloc _ _).alloc _ _).alloc _ _).drew)⟩

set_option maxHeartbeats 400000 in
theorem starts_C (t : Int) (h1 : 11 ≤ t) (h2 : t < 19) (w : World) :
    Calls Try.prog 21 #[.int .u8 t] w fun e w' => e = .returned (.bool true) ∧ w' = w := by
  go_enter Try.func21, Try.ntmps21
  go_wp2
  go_ret
  exact ⟨ret_bool (by first | rfl | (simp; omega)), rfl⟩

set_option maxHeartbeats 1000000 in
theorem inv_C (t : Int) (h1 : 11 ≤ t) (h2 : t < 19) (k wv ww st nx kt vf v : Int) (l ky ch : Bool) (w : World) :
    Calls Try.prog 8 #[.agg #[.int .i64 k, .bool l, .int .u64 wv, .int .i64 ww, .bool ky, .bool ch, .int .i64 st, .int .i64 nx, .int .u8 kt, .int .i64 vf, .int .i64 v], .int .u8 t] w fun e w' => e = .returned (.bool true) ∧ Grown w w' := by
  go_enter Try.func8, Try.ntmps8
  go_wp2_with (first
    | (go_at_call 21; refine (starts_C t h1 h2 _).mono ?_; rintro e w' ⟨rfl, rfl⟩)
    | (go_at_call 22; refine (toShim_any _ _ _ _ _ _ _ _ _ _ _ _).mono ?_; rintro e w' ⟨rfl, o1, o2, rfl⟩)
    | (go_at_call 24; refine (clear_any _ _ _ _ _ _ _ _ _ _ _ _).mono ?_; rintro e w' ⟨rfl, o3, o4, rfl⟩)
    | (go_at_call 23; refine (setTok_C t h1 h2 _ _ _ _ _ _ _ _ _ _ _ _).mono ?_; rintro e w' ⟨rfl, p1, p2, p3, p4, p5, p6, p7, rfl⟩)
    | (go_at_call 25; refine (enc_C t h1 h2 _ _ _ _ _ _ _).mono ?_; rintro e w' ⟨rfl, o5, rfl⟩))
  go_region_held3 (fun w' => w'.cell? ⟨w.heap.size + 5, 0, none⟩ = some (.int .i64 0) ∧ w'.cell? ⟨w.heap.size + 5, 1, none⟩ = some (.bool false) ∧ w'.cell? ⟨w.heap.size + 5, 2, none⟩ = some (.int .u64 wv) ∧ w'.cell? ⟨w.heap.size + 5, 3, none⟩ = some (.int .i64 0) ∧ w'.cell? ⟨w.heap.size + 5, 4, none⟩ = some (.bool false) ∧ w'.cell? ⟨w.heap.size + 5, 5, none⟩ = some (.bool false) ∧ w'.cell? ⟨w.heap.size + 5, 6, none⟩ = some (.int .i64 st) ∧ w'.cell? ⟨w.heap.size + 5, 7, none⟩ = some (.int .i64 nx) ∧ w'.cell? ⟨w.heap.size + 5, 8, none⟩ = some (.int .u8 kt) ∧ w'.cell? ⟨w.heap.size + 5, 9, none⟩ = some (.int .i64 vf) ∧ w'.cell? ⟨w.heap.size + 5, 10, none⟩ = some (.int .i64 v) ∧ w'.cell? ⟨w.heap.size + 13, 0, none⟩ = some (.int .i64 1) ∧ w'.cell? ⟨w.heap.size + 13, 1, none⟩ = some (.bool true) ∧ w'.cell? ⟨w.heap.size + 13, 2, none⟩ = some (.int .u64 wv) ∧ w'.cell? ⟨w.heap.size + 13, 3, none⟩ = some (.int .i64 (t - 11 + 1)) ∧ w'.cell? ⟨w.heap.size + 13, 4, none⟩ = some (.bool true) ∧ w'.cell? ⟨w.heap.size + 13, 5, none⟩ = some (.bool false) ∧ w'.cell? ⟨w.heap.size + 13, 6, none⟩ = some (.int .i64 st) ∧ w'.cell? ⟨w.heap.size + 13, 7, none⟩ = some (.int .i64 nx) ∧ w'.cell? ⟨w.heap.size + 13, 8, none⟩ = some (.int .u8 kt) ∧ w'.cell? ⟨w.heap.size + 13, 9, none⟩ = some (.int .i64 vf) ∧ w'.cell? ⟨w.heap.size + 13, 10, none⟩ = some (.int .i64 v)) (simp [go_sem, World.cell?_alloc_past])
    (first
      | (go_at_call 24; refine (clear_any _ _ _ _ _ _ _ _ _ _ _ _).mono ?_; rintro e w' ⟨rfl, o6, o7, rfl⟩))
  all_goals
    go_wp2
    go_ret
    exact ⟨rfl, (((((((((((((((((((Grown.refl _).alloc _ _).alloc _ _).alloc _ _).alloc _ _).alloc _ _).alloc _ _).alloc _ _).alloc _ _).alloc _ _).alloc _ _).alloc _ _).alloc _ _).alloc _ _).alloc _ _).alloc _ _).alloc _ _).alloc _ _).drew)⟩

set_option maxHeartbeats 400000 in
theorem starts_D (w : World) :
    Calls Try.prog 21 #[.int .u8 19] w fun e w' => e = .returned (.bool true) ∧ w' = w := by
  go_enter Try.func21, Try.ntmps21
  go_wp2
  go_ret
  exact ⟨ret_bool (by first | rfl | (simp; omega)), rfl⟩

set_option maxHeartbeats 1000000 in
theorem inv_D (k wv ww st nx kt vf v : Int) (l ky ch : Bool) (w : World) :
    Calls Try.prog 8 #[.agg #[.int .i64 k, .bool l, .int .u64 wv, .int .i64 ww, .bool ky, .bool ch, .int .i64 st, .int .i64 nx, .int .u8 kt, .int .i64 vf, .int .i64 v], .int .u8 19] w fun e w' => e = .returned (.bool true) ∧ Grown w w' := by
  go_enter Try.func8, Try.ntmps8
  go_wp2_with (first
    | (go_at_call 21; refine (starts_D _).mono ?_; rintro e w' ⟨rfl, rfl⟩)
    | (go_at_call 22; refine (toShim_any _ _ _ _ _ _ _ _ _ _ _ _).mono ?_; rintro e w' ⟨rfl, o1, o2, rfl⟩)
    | (go_at_call 24; refine (clear_any _ _ _ _ _ _ _ _ _ _ _ _).mono ?_; rintro e w' ⟨rfl, o3, o4, rfl⟩)
    | (go_at_call 23; refine (setTok_D _ _ _ _ _ _ _ _ _ _ _ _).mono ?_; rintro e w' ⟨rfl, p1, p2, p3, p4, p5, p6, p7, rfl⟩)
    | (go_at_call 25; refine (enc_D _ _ _ _ _ _ _).mono ?_; rintro e w' ⟨rfl, o5, rfl⟩))
  go_region_held3 (fun w' => w'.cell? ⟨w.heap.size + 5, 0, none⟩ = some (.int .i64 0) ∧ w'.cell? ⟨w.heap.size + 5, 1, none⟩ = some (.bool false) ∧ w'.cell? ⟨w.heap.size + 5, 2, none⟩ = some (.int .u64 wv) ∧ w'.cell? ⟨w.heap.size + 5, 3, none⟩ = some (.int .i64 0) ∧ w'.cell? ⟨w.heap.size + 5, 4, none⟩ = some (.bool false) ∧ w'.cell? ⟨w.heap.size + 5, 5, none⟩ = some (.bool false) ∧ w'.cell? ⟨w.heap.size + 5, 6, none⟩ = some (.int .i64 st) ∧ w'.cell? ⟨w.heap.size + 5, 7, none⟩ = some (.int .i64 nx) ∧ w'.cell? ⟨w.heap.size + 5, 8, none⟩ = some (.int .u8 kt) ∧ w'.cell? ⟨w.heap.size + 5, 9, none⟩ = some (.int .i64 vf) ∧ w'.cell? ⟨w.heap.size + 5, 10, none⟩ = some (.int .i64 v) ∧ w'.cell? ⟨w.heap.size + 13, 0, none⟩ = some (.int .i64 1) ∧ w'.cell? ⟨w.heap.size + 13, 1, none⟩ = some (.bool true) ∧ w'.cell? ⟨w.heap.size + 13, 2, none⟩ = some (.int .u64 wv) ∧ w'.cell? ⟨w.heap.size + 13, 3, none⟩ = some (.int .i64 8) ∧ w'.cell? ⟨w.heap.size + 13, 4, none⟩ = some (.bool false) ∧ w'.cell? ⟨w.heap.size + 13, 5, none⟩ = some (.bool true) ∧ w'.cell? ⟨w.heap.size + 13, 6, none⟩ = some (.int .i64 st) ∧ w'.cell? ⟨w.heap.size + 13, 7, none⟩ = some (.int .i64 nx) ∧ w'.cell? ⟨w.heap.size + 13, 8, none⟩ = some (.int .u8 kt) ∧ w'.cell? ⟨w.heap.size + 13, 9, none⟩ = some (.int .i64 vf) ∧ w'.cell? ⟨w.heap.size + 13, 10, none⟩ = some (.int .i64 v)) (simp [go_sem, World.cell?_alloc_past])
    (first
      | (go_at_call 24; refine (clear_any _ _ _ _ _ _ _ _ _ _ _ _).mono ?_; rintro e w' ⟨rfl, o6, o7, rfl⟩))
  all_goals
    go_wp2
    go_ret
    exact ⟨rfl, (((((((((((((((((((Grown.refl _).alloc _ _).alloc _ _).alloc _ _).alloc _ _).alloc _ _).alloc _ _).alloc _ _).alloc _ _).alloc _ _).alloc _ _).alloc _ _).alloc _ _).alloc _ _).alloc _ _).alloc _ _).alloc _ _).alloc _ _).drew)⟩

set_option maxHeartbeats 400000 in
theorem starts_E (t : Int) (h1 : 21 ≤ t) (h2 : t < 29) (w : World) :
    Calls Try.prog 21 #[.int .u8 t] w fun e w' => e = .returned (.bool true) ∧ w' = w := by
  go_enter Try.func21, Try.ntmps21
  go_wp2
  go_ret
  exact ⟨ret_bool (by first | rfl | (simp; omega)), rfl⟩

set_option maxHeartbeats 1000000 in
theorem inv_E (t : Int) (h1 : 21 ≤ t) (h2 : t < 29) (k wv ww st nx kt vf v : Int) (l ky ch : Bool) (w : World) :
    Calls Try.prog 8 #[.agg #[.int .i64 k, .bool l, .int .u64 wv, .int .i64 ww, .bool ky, .bool ch, .int .i64 st, .int .i64 nx, .int .u8 kt, .int .i64 vf, .int .i64 v], .int .u8 t] w fun e w' => e = .returned (.bool true) ∧ Grown w w' := by
  go_enter Try.func8, Try.ntmps8
  go_wp2_with (first
    | (go_at_call 21; refine (starts_E t h1 h2 _).mono ?_; rintro e w' ⟨rfl, rfl⟩)
    | (go_at_call 22; refine (toShim_any _ _ _ _ _ _ _ _ _ _ _ _).mono ?_; rintro e w' ⟨rfl, o1, o2, rfl⟩)
    | (go_at_call 24; refine (clear_any _ _ _ _ _ _ _ _ _ _ _ _).mono ?_; rintro e w' ⟨rfl, o3, o4, rfl⟩)
    | (go_at_call 23; refine (setTok_E t h1 h2 _ _ _ _ _ _ _ _ _ _ _ _).mono ?_; rintro e w' ⟨rfl, p1, p2, p3, p4, p5, p6, p7, rfl⟩)
    | (go_at_call 25; refine (enc_E t h1 h2 _ _ _ _ _ _ _).mono ?_; rintro e w' ⟨rfl, o5, rfl⟩))
  go_region_held3 (fun w' => w'.cell? ⟨w.heap.size + 5, 0, none⟩ = some (.int .i64 0) ∧ w'.cell? ⟨w.heap.size + 5, 1, none⟩ = some (.bool false) ∧ w'.cell? ⟨w.heap.size + 5, 2, none⟩ = some (.int .u64 wv) ∧ w'.cell? ⟨w.heap.size + 5, 3, none⟩ = some (.int .i64 0) ∧ w'.cell? ⟨w.heap.size + 5, 4, none⟩ = some (.bool false) ∧ w'.cell? ⟨w.heap.size + 5, 5, none⟩ = some (.bool false) ∧ w'.cell? ⟨w.heap.size + 5, 6, none⟩ = some (.int .i64 st) ∧ w'.cell? ⟨w.heap.size + 5, 7, none⟩ = some (.int .i64 nx) ∧ w'.cell? ⟨w.heap.size + 5, 8, none⟩ = some (.int .u8 kt) ∧ w'.cell? ⟨w.heap.size + 5, 9, none⟩ = some (.int .i64 vf) ∧ w'.cell? ⟨w.heap.size + 5, 10, none⟩ = some (.int .i64 v) ∧ w'.cell? ⟨w.heap.size + 13, 0, none⟩ = some (.int .i64 2) ∧ w'.cell? ⟨w.heap.size + 13, 1, none⟩ = some (.bool false) ∧ w'.cell? ⟨w.heap.size + 13, 2, none⟩ = some (.int .u64 wv) ∧ w'.cell? ⟨w.heap.size + 13, 3, none⟩ = some (.int .i64 (t - 21 + 1)) ∧ w'.cell? ⟨w.heap.size + 13, 4, none⟩ = some (.bool false) ∧ w'.cell? ⟨w.heap.size + 13, 5, none⟩ = some (.bool false) ∧ w'.cell? ⟨w.heap.size + 13, 6, none⟩ = some (.int .i64 st) ∧ w'.cell? ⟨w.heap.size + 13, 7, none⟩ = some (.int .i64 nx) ∧ w'.cell? ⟨w.heap.size + 13, 8, none⟩ = some (.int .u8 kt) ∧ w'.cell? ⟨w.heap.size + 13, 9, none⟩ = some (.int .i64 vf) ∧ w'.cell? ⟨w.heap.size + 13, 10, none⟩ = some (.int .i64 v)) (simp [go_sem, World.cell?_alloc_past])
    (first
      | (go_at_call 24; refine (clear_any _ _ _ _ _ _ _ _ _ _ _ _).mono ?_; rintro e w' ⟨rfl, o6, o7, rfl⟩))
  all_goals
    go_wp2
    go_ret
    exact ⟨rfl, (((((((((((((((((((Grown.refl _).alloc _ _).alloc _ _).alloc _ _).alloc _ _).alloc _ _).alloc _ _).alloc _ _).alloc _ _).alloc _ _).alloc _ _).alloc _ _).alloc _ _).alloc _ _).alloc _ _).alloc _ _).alloc _ _).alloc _ _).drew)⟩

set_option maxHeartbeats 400000 in
theorem starts_F (w : World) :
    Calls Try.prog 21 #[.int .u8 30] w fun e w' => e = .returned (.bool true) ∧ w' = w := by
  go_enter Try.func21, Try.ntmps21
  go_wp2
  go_ret
  exact ⟨ret_bool (by first | rfl | (simp; omega)), rfl⟩

set_option maxHeartbeats 1000000 in
theorem inv_F (k wv ww st nx kt vf v : Int) (l ky ch : Bool) (w : World) :
    Calls Try.prog 8 #[.agg #[.int .i64 k, .bool l, .int .u64 wv, .int .i64 ww, .bool ky, .bool ch, .int .i64 st, .int .i64 nx, .int .u8 kt, .int .i64 vf, .int .i64 v], .int .u8 30] w fun e w' => e = .returned (.bool true) ∧ Grown w w' := by
  go_enter Try.func8, Try.ntmps8
  go_wp2_with (first
    | (go_at_call 21; refine (starts_F _).mono ?_; rintro e w' ⟨rfl, rfl⟩)
    | (go_at_call 22; refine (toShim_any _ _ _ _ _ _ _ _ _ _ _ _).mono ?_; rintro e w' ⟨rfl, o1, o2, rfl⟩)
    | (go_at_call 24; refine (clear_any _ _ _ _ _ _ _ _ _ _ _ _).mono ?_; rintro e w' ⟨rfl, o3, o4, rfl⟩)
    | (go_at_call 23; refine (setTok_F _ _ _ _ _ _ _ _ _ _ _ _).mono ?_; rintro e w' ⟨rfl, p1, p2, p3, p4, p5, p6, p7, rfl⟩)
    | (go_at_call 25; refine (enc_F _ _ _ _ _ _ _).mono ?_; rintro e w' ⟨rfl, o5, rfl⟩))
  go_region_held3 (fun w' => w'.cell? ⟨w.heap.size + 5, 0, none⟩ = some (.int .i64 0) ∧ w'.cell? ⟨w.heap.size + 5, 1, none⟩ = some (.bool false) ∧ w'.cell? ⟨w.heap.size + 5, 2, none⟩ = some (.int .u64 wv) ∧ w'.cell? ⟨w.heap.size + 5, 3, none⟩ = some (.int .i64 0) ∧ w'.cell? ⟨w.heap.size + 5, 4, none⟩ = some (.bool false) ∧ w'.cell? ⟨w.heap.size + 5, 5, none⟩ = some (.bool false) ∧ w'.cell? ⟨w.heap.size + 5, 6, none⟩ = some (.int .i64 st) ∧ w'.cell? ⟨w.heap.size + 5, 7, none⟩ = some (.int .i64 nx) ∧ w'.cell? ⟨w.heap.size + 5, 8, none⟩ = some (.int .u8 kt) ∧ w'.cell? ⟨w.heap.size + 5, 9, none⟩ = some (.int .i64 vf) ∧ w'.cell? ⟨w.heap.size + 5, 10, none⟩ = some (.int .i64 v) ∧ w'.cell? ⟨w.heap.size + 13, 0, none⟩ = some (.int .i64 3) ∧ w'.cell? ⟨w.heap.size + 13, 1, none⟩ = some (.bool false) ∧ w'.cell? ⟨w.heap.size + 13, 2, none⟩ = some (.int .u64 wv) ∧ w'.cell? ⟨w.heap.size + 13, 3, none⟩ = some (.int .i64 0) ∧ w'.cell? ⟨w.heap.size + 13, 4, none⟩ = some (.bool false) ∧ w'.cell? ⟨w.heap.size + 13, 5, none⟩ = some (.bool false) ∧ w'.cell? ⟨w.heap.size + 13, 6, none⟩ = some (.int .i64 st) ∧ w'.cell? ⟨w.heap.size + 13, 7, none⟩ = some (.int .i64 nx) ∧ w'.cell? ⟨w.heap.size + 13, 8, none⟩ = some (.int .u8 kt) ∧ w'.cell? ⟨w.heap.size + 13, 9, none⟩ = some (.int .i64 vf) ∧ w'.cell? ⟨w.heap.size + 13, 10, none⟩ = some (.int .i64 v)) (simp [go_sem, World.cell?_alloc_past])
    (first
      | (go_at_call 24; refine (clear_any _ _ _ _ _ _ _ _ _ _ _ _).mono ?_; rintro e w' ⟨rfl, o6, o7, rfl⟩))
  all_goals
    go_wp2
    go_ret
    exact ⟨rfl, (((((((((((((((((((Grown.refl _).alloc _ _).alloc _ _).alloc _ _).alloc _ _).alloc _ _).alloc _ _).alloc _ _).alloc _ _).alloc _ _).alloc _ _).alloc _ _).alloc _ _).alloc _ _).alloc _ _).alloc _ _).alloc _ _).alloc _ _).drew)⟩

set_option maxHeartbeats 400000 in
theorem starts_G0 (w : World) :
    Calls Try.prog 21 #[.int .u8 0] w fun e w' => e = .returned (.bool false) ∧ w' = w := by
  go_enter Try.func21, Try.ntmps21
  go_wp2
  go_ret
  exact ⟨ret_bool (by first | rfl | (simp; omega)), rfl⟩

set_option maxHeartbeats 1000000 in
theorem inv_G0 (k wv ww st nx kt vf v : Int) (l ky ch : Bool) (w : World) :
    Calls Try.prog 8 #[.agg #[.int .i64 k, .bool l, .int .u64 wv, .int .i64 ww, .bool ky, .bool ch, .int .i64 st, .int .i64 nx, .int .u8 kt, .int .i64 vf, .int .i64 v], .int .u8 0] w fun e w' => e = .returned (.bool true) ∧ Grown w w' := by
  go_enter Try.func8, Try.ntmps8
  go_wp2_with (go_at_call 21; refine (starts_G0 _).mono ?_; rintro e w' ⟨rfl, rfl⟩)
  go_ret
  exact ⟨rfl, by repeat (first | exact Grown.refl _ | apply Grown.drew | apply Grown.alloc)⟩

set_option maxHeartbeats 400000 in
theorem starts_G1 (w : World) :
    Calls Try.prog 21 #[.int .u8 10] w fun e w' => e = .returned (.bool false) ∧ w' = w := by
  go_enter Try.func21, Try.ntmps21
  go_wp2
  go_ret
  exact ⟨ret_bool (by first | rfl | (simp; omega)), rfl⟩

set_option maxHeartbeats 1000000 in
theorem inv_G1 (k wv ww st nx kt vf v : Int) (l ky ch : Bool) (w : World) :
    Calls Try.prog 8 #[.agg #[.int .i64 k, .bool l, .int .u64 wv, .int .i64 ww, .bool ky, .bool ch, .int .i64 st, .int .i64 nx, .int .u8 kt, .int .i64 vf, .int .i64 v], .int .u8 10] w fun e w' => e = .returned (.bool true) ∧ Grown w w' := by
  go_enter Try.func8, Try.ntmps8
  go_wp2_with (go_at_call 21; refine (starts_G1 _).mono ?_; rintro e w' ⟨rfl, rfl⟩)
  go_ret
  exact ⟨rfl, by repeat (first | exact Grown.refl _ | apply Grown.drew | apply Grown.alloc)⟩

set_option maxHeartbeats 400000 in
theorem starts_G2 (w : World) :
    Calls Try.prog 21 #[.int .u8 20] w fun e w' => e = .returned (.bool false) ∧ w' = w := by
  go_enter Try.func21, Try.ntmps21
  go_wp2
  go_ret
  exact ⟨ret_bool (by first | rfl | (simp; omega)), rfl⟩

set_option maxHeartbeats 1000000 in
theorem inv_G2 (k wv ww st nx kt vf v : Int) (l ky ch : Bool) (w : World) :
    Calls Try.prog 8 #[.agg #[.int .i64 k, .bool l, .int .u64 wv, .int .i64 ww, .bool ky, .bool ch, .int .i64 st, .int .i64 nx, .int .u8 kt, .int .i64 vf, .int .i64 v], .int .u8 20] w fun e w' => e = .returned (.bool true) ∧ Grown w w' := by
  go_enter Try.func8, Try.ntmps8
  go_wp2_with (go_at_call 21; refine (starts_G2 _).mono ?_; rintro e w' ⟨rfl, rfl⟩)
  go_ret
  exact ⟨rfl, by repeat (first | exact Grown.refl _ | apply Grown.drew | apply Grown.alloc)⟩

set_option maxHeartbeats 400000 in
theorem starts_G3 (w : World) :
    Calls Try.prog 21 #[.int .u8 29] w fun e w' => e = .returned (.bool false) ∧ w' = w := by
  go_enter Try.func21, Try.ntmps21
  go_wp2
  go_ret
  exact ⟨ret_bool (by first | rfl | (simp; omega)), rfl⟩

set_option maxHeartbeats 1000000 in
theorem inv_G3 (k wv ww st nx kt vf v : Int) (l ky ch : Bool) (w : World) :
    Calls Try.prog 8 #[.agg #[.int .i64 k, .bool l, .int .u64 wv, .int .i64 ww, .bool ky, .bool ch, .int .i64 st, .int .i64 nx, .int .u8 kt, .int .i64 vf, .int .i64 v], .int .u8 29] w fun e w' => e = .returned (.bool true) ∧ Grown w w' := by
  go_enter Try.func8, Try.ntmps8
  go_wp2_with (go_at_call 21; refine (starts_G3 _).mono ?_; rintro e w' ⟨rfl, rfl⟩)
  go_ret
  exact ⟨rfl, by repeat (first | exact Grown.refl _ | apply Grown.drew | apply Grown.alloc)⟩

set_option maxHeartbeats 400000 in
theorem starts_G4 (t : Int) (h1 : 31 ≤ t) (h2 : t ≤ 255) (w : World) :
    Calls Try.prog 21 #[.int .u8 t] w fun e w' => e = .returned (.bool false) ∧ w' = w := by
  go_enter Try.func21, Try.ntmps21
  go_wp2
  go_ret
  exact ⟨ret_bool (by first | rfl | (simp; omega)), rfl⟩

set_option maxHeartbeats 1000000 in
theorem inv_G4 (t : Int) (h1 : 31 ≤ t) (h2 : t ≤ 255) (k wv ww st nx kt vf v : Int) (l ky ch : Bool) (w : World) :
    Calls Try.prog 8 #[.agg #[.int .i64 k, .bool l, .int .u64 wv, .int .i64 ww, .bool ky, .bool ch, .int .i64 st, .int .i64 nx, .int .u8 kt, .int .i64 vf, .int .i64 v], .int .u8 t] w fun e w' => e = .returned (.bool true) ∧ Grown w w' := by
  go_enter Try.func8, Try.ntmps8
  go_wp2_with (go_at_call 21; refine (starts_G4 t h1 h2 _).mono ?_; rintro e w' ⟨rfl, rfl⟩)
  go_ret
  exact ⟨rfl, by repeat (first | exact Grown.refl _ | apply Grown.drew | apply Grown.alloc)⟩
end Go.Proofs.Qxb6001311a
