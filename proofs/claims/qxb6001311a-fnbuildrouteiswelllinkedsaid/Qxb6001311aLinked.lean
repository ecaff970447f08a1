import Derived.Test.Qxb6001311aRoute
import Derived.Test.Qxb6001311aFit
namespace Go.Proofs.Qxb6001311a
open Go.RowKit

theorem info4 : (Try.prog.info? 4).map (fun i => (i.zero, i.size, i.bytes)) = some (some (.bool false), 1, 1) := by kernel_rfl
theorem make0 (wx : World) : (Instr.makeSlice 31 (.int .i64 0) (.int .i64 0)).run Try.prog wx = .ok (.slice (some ⟨wx.heap.size, 0, none⟩) 0 0) (wx.alloc (.cells (madeCells #[.bool false] 0) 4)) :=
  run_make_row' (P := Try.prog) 31 4 (.bool false) 1 Try.underlying31 info4 rfl .i64 .i64 0 (by omega) (by omega) wx
theorem old3 {wr : World} {a : Addr} {v : Value} (h : wr.cell? a = some v) (o1 o2 o3 : Obj) : (((wr.alloc o1).alloc o2).alloc o3).cell? a = some v :=
  ((below3 (Below.refl wr.heap.size wr)).cell (World.block_lt_of_cell? wr a h)).trans h
theorem old6 {wr : World} {a : Addr} {v : Value} (h : wr.cell? a = some v) (o1 o2 o3 o4 o5 o6 : Obj) : ((((((wr.alloc o1).alloc o2).alloc o3).alloc o4).alloc o5).alloc o6).cell? a = some v := old3 (old3 h o1 o2 o3) o4 o5 o6
theorem oldf3 {wr : World} {a : Addr} (h : wr.frozen? a = false) (hl : a.block < wr.heap.size) (o1 o2 o3 : Obj) : (((wr.alloc o1).alloc o2).alloc o3).frozen? a = false :=
  ((below3 (Below.refl wr.heap.size wr)).frozen hl).trans h
theorem oldf6 {wr : World} {a : Addr} (h : wr.frozen? a = false) (hl : a.block < wr.heap.size) (o1 o2 o3 o4 o5 o6 : Obj) : ((((((wr.alloc o1).alloc o2).alloc o3).alloc o4).alloc o5).alloc o6).frozen? a = false :=
  oldf3 (oldf3 h hl o1 o2 o3) (by simp; omega) o4 o5 o6
theorem seen_step (c j : Nat) : (if j = c then Value.bool true else .bool (decide (j < c))) = .bool (decide (j < c + 1)) := by
  rcases Nat.lt_trichotomy j c with h | h | h
  · rw [if_neg (by omega), decide_eq_true h, decide_eq_true (by omega)]
  · rw [if_pos h, decide_eq_true (by omega)]
  · rw [if_neg (by omega), decide_eq_false (by omega), decide_eq_false (by omega)]

set_option maxRecDepth 100000 in
set_option maxHeartbeats 4000000 in
theorem linked_any (a0 : Option Addr) (b off cap : Nat) (Xs : List ByteArray) (w' : World) (hK : KeysAt w' a0 b off Xs) (hs : ∀ X ∈ Xs, X.size ≤ maxLen) (hn : Xs.length ≤ maxLen) :
    Calls Try.prog 5 #[.slice a0 Xs.length cap] w' fun e w => e = .returned (.bool true) ∧ Below w'.heap.size w' w := by
  have hmk := fun (n : Nat) (h : n ≤ 1048576) wx => run_make_row' (P := Try.prog) 31 4 (.bool false) 1 Try.underlying31 info4 rfl .i64 .i64 n (by omega) (by omega) wx
  go_enter Try.func5, Try.ntmps5
  go_wp2_with fail
  refine (bytes17 a0 b off cap Xs _ hK hs hn).mono ?_
  rintro e w' ⟨⟨r, rfl, hr⟩, rfl⟩
  cases r
  · go_wp2
    go_ret
    exact ⟨rfl, Below.refl _ _⟩
  have ht := hr rfl
  clear hr
  have hs1 : ∀ X ∈ Xs, X.size ≤ 1048576 := fun X hX => by have := mem_tot hX; omega
  by_cases h1 : (65536 : Int) < (Xs.length : Int)
  · go_wp2
    go_ret
    exact ⟨rfl, Below.refl _ _⟩
  go_wp2_with fail
  refine (keysBytes a0 b off cap Xs _ hK ht).mono ?_
  rintro e w' ⟨rfl, rfl⟩
  by_cases h2 : (1048576 : Int) < (16 * (Xs.length : Int) + (tot Xs : Int))
  · go_wp2
    go_ret
    exact ⟨rfl, Below.refl _ _⟩
  go_wp2_with fail
  refine (order_any a0 b off cap Xs _ hK hs1 (by omega)).mono ?_
  rintro e w1 ⟨⟨r, rfl, hr2⟩, hb1⟩
  cases r
  · go_wp2
    go_ret
    exact ⟨rfl, hb1⟩
  have hS : Hid (Sorted Xs) := sorted_of (hr2 rfl)
  clear hr2
  go_wp2_with fail
  refine (clone_any a0 b off cap Xs _ (hK.below hb1) (by omega)).mono ?_
  rintro e w2 ⟨a1, b1, off1, cap1, rfl, hK2, hb2⟩
  have hb12 : Below w'.heap.size w' w2 := hb1.trans (hb2.mono hb1.size)
  go_wp2_with fail
  refine (route_any a1 b1 off1 cap1 Xs _ hK2 (by omega) ht hS.out).mono ?_
  rintro e w3 ⟨hb3, hres⟩
  have hb13 : Below w'.heap.size w' w3 := hb12.trans (hb3.mono hb12.size)
  have hK3 := hK2.below hb3
  clear hb1 hb2 hb12 hb3 hK2
  have hmx := fun wx => hmk Xs.length (by omega) wx
  clear hmk
  have hb3a : Below w'.heap.size w' (w3.alloc (.cells (madeCells #[.bool false] Xs.length) 4)) := hb13.alloc hb13.size _
  rcases hres with ⟨hx, rfl⟩ | ⟨h0, g, cp, ns, G, rfl, hN, hI, hl, _⟩
  · subst hx
    have hm0 := make0
    go_wp2
    go_loop [6, 5] (fun i c => i = .int .i64 0 ∧ c = .int .i64 0) (fun _ _ => 0)
    case atStart => exact ⟨rfl, rfl⟩
    case round =>
      obtain ⟨rfl, rfl⟩ := hrel
      go_wp2
      go_ret
      exact ⟨rfl, hb3a⟩
  · obtain ⟨rfl, _⟩ := hK3.addr h0
    have HI : Hid (Inv Xs ns G []) := hI
    clear hI
    go_wp2
    go_loopw [5, 6] (fun s5 s6 wr => ∃ i : Nat, i ≤ ns.length ∧ s6 = .int .i64 i ∧ s5 = .int .i64 (kc (ns.take i)) ∧ Below w3.heap.size w3 wr ∧ wr.rowIs w3.heap.size 4 Xs.length (fun j => .bool (decide (j < kc (ns.take i))))) (fun _ i _ => ns.length - (intOf i).toNat)
    case atStart => exact ⟨0, by omega, rfl, rfl, (Below.refl _ _).alloc (Nat.le_refl _) _, (World.rowIs_made w3 _ _ 4).congr (fun j _ => by simp [kc])⟩
    case round =>
      obtain ⟨i, hi, rfl, rfl, hb, hrow⟩ := hrel
      by_cases hlt : i < ns.length
      · obtain ⟨d, hd⟩ : ∃ d, ns[i]? = some d := ⟨ns[i], List.getElem?_eq_getElem hlt⟩
        have hii : (i : Int) < (ns.length : Int) := by omega
        have hNr := hN.below hb
        have hgi : i < G.length := by rw [HI.out.len]; exact hlt
        have hgg := List.getElem?_eq_getElem hgi
        have hkk := kinds HI.out hd hgg
        have hcs := kc_take_succ ns i d hd
        have hkk1 := fun h => key_kind HI.out hd h
        obtain ⟨k, l, wv, ww, ky, ch, tg, rk⟩ := d
        change kc (ns.take (i + 1)) = kc (ns.take i) + (if ky then 1 else 0) at hcs
        change ky = true → k = 1 at hkk1
        have c0 : wr.cell? ⟨g, i * 13, none⟩ = some (.int .i64 k) := hNr.cell i _ 0 hd (by decide)
        have c1 : wr.cell? ⟨g, i * 13 + 1, none⟩ = some (.bool l) := hNr.cell i _ 1 hd (by decide)
        have c2 : wr.cell? ⟨g, i * 13 + 2, none⟩ = some (.int .u64 wv) := hNr.cell i _ 2 hd (by decide)
        have c3 : wr.cell? ⟨g, i * 13 + 3, none⟩ = some (.int .i64 ww) := hNr.cell i _ 3 hd (by decide)
        have c4 : wr.cell? ⟨g, i * 13 + 4, none⟩ = some (.bool ky) := hNr.cell i _ 4 hd (by decide)
        have c5 : wr.cell? ⟨g, i * 13 + 5, none⟩ = some (.bool ch) := hNr.cell i _ 5 hd (by decide)
        have c6 : wr.cell? ⟨g, i * 13 + 6, none⟩ = some (.int .i64 0) := hNr.cell i _ 6 hd (by decide)
        have c7 : wr.cell? ⟨g, i * 13 + 7, none⟩ = some (.int .i64 0) := hNr.cell i _ 7 hd (by decide)
        have c8 : wr.cell? ⟨g, i * 13 + 8, none⟩ = some (.int .u8 0) := hNr.cell i _ 8 hd (by decide)
        have c9 : wr.cell? ⟨g, i * 13 + 9, none⟩ = some (.int .i64 0) := hNr.cell i _ 9 hd (by decide)
        have c10 : wr.cell? ⟨g, i * 13 + 10, none⟩ = some (.int .i64 0) := hNr.cell i _ 10 hd (by decide)
        have c11 : wr.cell? ⟨g, i * 13 + 11, none⟩ = some (.int .i64 tg) := hNr.cell i _ 11 hd (by decide)
        have c12 : wr.cell? ⟨g, i * 13 + 12, none⟩ = some (.int .i64 rk) := hNr.cell i _ 12 hd (by decide)
        have HD : Hid (ns[i]? = some ⟨k, l, wv, ww, ky, ch, tg, rk⟩) := hd
        have hcl : kc (ns.take i) ≤ Xs.length := by rw [← kc_all HI.out]; exact kc_take_le ns i
        obtain ⟨c, hc⟩ : ∃ c, c = kc (ns.take i) := ⟨_, rfl⟩
        rw [← hc] at hrow hcs hcl ⊢
        have HCC : Hid (kc (ns.take i) = c) := hc.symm
        have HC : Hid (kc (ns.take (i + 1)) = c + (if ky then 1 else 0)) := hcs
        clear hd hc hcs
        rcases hkk with hk | hk | hk
        · change k = 1 at hk
          subst hk
          clear hkk1
          cases l
          · cases ky
            · simp only [Bool.false_eq_true, if_false, Nat.add_zero] at HC
              obtain ⟨ht, d2, g2, hd2, _, _, hk2, hk1⟩ := step_targ HI.out HD.out hgg (.inr ⟨rfl, rfl⟩)
              change i < tg at ht
              change ns[tg]? = some d2 at hd2
              have htl := lt_of_get hd2
              have hkd : d2.kind = 1 := hk1 rfl
              obtain ⟨k2, l2, wv2, ww2, ky2, ch2, tg2, rk2⟩ := d2
              change k2 = 1 at hkd
              subst hkd
              have t0 := old3 (a := ⟨g, tg * 13, none⟩) (v := .int .i64 1) (hNr.cell tg _ 0 hd2 (by decide))
              have t1 := old3 (a := ⟨g, tg * 13 + 1, none⟩) (v := .bool l2) (hNr.cell tg _ 1 hd2 (by decide))
              have t2 := old3 (a := ⟨g, tg * 13 + 2, none⟩) (v := .int .u64 wv2) (hNr.cell tg _ 2 hd2 (by decide))
              have t3 := old3 (a := ⟨g, tg * 13 + 3, none⟩) (v := .int .i64 ww2) (hNr.cell tg _ 3 hd2 (by decide))
              have t4 := old3 (a := ⟨g, tg * 13 + 4, none⟩) (v := .bool ky2) (hNr.cell tg _ 4 hd2 (by decide))
              have t5 := old3 (a := ⟨g, tg * 13 + 5, none⟩) (v := .bool ch2) (hNr.cell tg _ 5 hd2 (by decide))
              have t6 := old3 (a := ⟨g, tg * 13 + 6, none⟩) (v := .int .i64 0) (hNr.cell tg _ 6 hd2 (by decide))
              have t7 := old3 (a := ⟨g, tg * 13 + 7, none⟩) (v := .int .i64 0) (hNr.cell tg _ 7 hd2 (by decide))
              have t8 := old3 (a := ⟨g, tg * 13 + 8, none⟩) (v := .int .u8 0) (hNr.cell tg _ 8 hd2 (by decide))
              have t9 := old3 (a := ⟨g, tg * 13 + 9, none⟩) (v := .int .i64 0) (hNr.cell tg _ 9 hd2 (by decide))
              have t10 := old3 (a := ⟨g, tg * 13 + 10, none⟩) (v := .int .i64 0) (hNr.cell tg _ 10 hd2 (by decide))
              have t11 := old3 (a := ⟨g, tg * 13 + 11, none⟩) (v := .int .i64 tg2) (hNr.cell tg _ 11 hd2 (by decide))
              have t12 := old3 (a := ⟨g, tg * 13 + 12, none⟩) (v := .int .i64 rk2) (hNr.cell tg _ 12 hd2 (by decide))
              have t1a : ¬ tg ≤ i := by omega
              have t1b : ¬ ns.length ≤ tg := by omega
              have t1c : (tg : Int) < (ns.length : Int) := by omega
              have t1d : decide (tg ≤ i) = false := by simp; omega
              have t1e : decide (ns.length ≤ tg) = false := by simp; omega
              clear hd2 hk1 hk2
              go_wp2_with (first | (go_at_call 18; refine (fields_any _ _ _ _ _ _ _ _ _).mono ?_; rintro e w' ⟨rfl, o1, o2, rfl⟩))
              go_roundw
              case rel => exact ⟨i + 1, by omega, by go_num, i64_eq (by rw [HC.out]), below3 (below3 hb), ((((((hrow.alloc _).alloc _).alloc _).alloc _).alloc _).alloc _).congr (fun j _ => by rw [HC.out])⟩
              case measure => simp [intOf]; omega
            · simp only [if_true] at HC
              have hrk := rank_lt HI.out HD.out rfl
              change rk = kc (ns.take i) ∧ rk < Xs.length at hrk
              have hrc : c = rk := by rw [hrk.1]; exact HCC.out.symm
              have hcn : c < Xs.length := by omega
              subst hrc
              have s1 := old3 (hrow.cell (i := c) hcn)
              have s6 := old6 (hrow.cell (i := c) hcn)
              have f1 := oldf3 (hrow.frozen c) hrow.lt
              have f6 := oldf6 (hrow.frozen c) hrow.lt
              have dcc : decide (c < c) = false := by simp
              have k1a : ¬ Xs.length ≤ c := by omega
              have k1b : (c : Int) < (Xs.length : Int) := by omega
              have k1c : decide (Xs.length ≤ c) = false := by simp; omega
              clear hrk
              obtain ⟨ht, d2, g2, hd2, _, _, hk2, hk1⟩ := step_targ HI.out HD.out hgg (.inr ⟨rfl, rfl⟩)
              change i < tg at ht
              change ns[tg]? = some d2 at hd2
              have htl := lt_of_get hd2
              have hkd : d2.kind = 1 := hk1 rfl
              obtain ⟨k2, l2, wv2, ww2, ky2, ch2, tg2, rk2⟩ := d2
              change k2 = 1 at hkd
              subst hkd
              have t0 := old3 (a := ⟨g, tg * 13, none⟩) (v := .int .i64 1) (hNr.cell tg _ 0 hd2 (by decide))
              have t1 := old3 (a := ⟨g, tg * 13 + 1, none⟩) (v := .bool l2) (hNr.cell tg _ 1 hd2 (by decide))
              have t2 := old3 (a := ⟨g, tg * 13 + 2, none⟩) (v := .int .u64 wv2) (hNr.cell tg _ 2 hd2 (by decide))
              have t3 := old3 (a := ⟨g, tg * 13 + 3, none⟩) (v := .int .i64 ww2) (hNr.cell tg _ 3 hd2 (by decide))
              have t4 := old3 (a := ⟨g, tg * 13 + 4, none⟩) (v := .bool ky2) (hNr.cell tg _ 4 hd2 (by decide))
              have t5 := old3 (a := ⟨g, tg * 13 + 5, none⟩) (v := .bool ch2) (hNr.cell tg _ 5 hd2 (by decide))
              have t6 := old3 (a := ⟨g, tg * 13 + 6, none⟩) (v := .int .i64 0) (hNr.cell tg _ 6 hd2 (by decide))
              have t7 := old3 (a := ⟨g, tg * 13 + 7, none⟩) (v := .int .i64 0) (hNr.cell tg _ 7 hd2 (by decide))
              have t8 := old3 (a := ⟨g, tg * 13 + 8, none⟩) (v := .int .u8 0) (hNr.cell tg _ 8 hd2 (by decide))
              have t9 := old3 (a := ⟨g, tg * 13 + 9, none⟩) (v := .int .i64 0) (hNr.cell tg _ 9 hd2 (by decide))
              have t10 := old3 (a := ⟨g, tg * 13 + 10, none⟩) (v := .int .i64 0) (hNr.cell tg _ 10 hd2 (by decide))
              have t11 := old3 (a := ⟨g, tg * 13 + 11, none⟩) (v := .int .i64 tg2) (hNr.cell tg _ 11 hd2 (by decide))
              have t12 := old3 (a := ⟨g, tg * 13 + 12, none⟩) (v := .int .i64 rk2) (hNr.cell tg _ 12 hd2 (by decide))
              have t1a : ¬ tg ≤ i := by omega
              have t1b : ¬ ns.length ≤ tg := by omega
              have t1c : (tg : Int) < (ns.length : Int) := by omega
              have t1d : decide (tg ≤ i) = false := by simp; omega
              have t1e : decide (ns.length ≤ tg) = false := by simp; omega
              clear hd2 hk1 hk2
              go_wp2_with (first | (go_at_call 18; refine (fields_any _ _ _ _ _ _ _ _ _).mono ?_; rintro e w' ⟨rfl, o1, o2, rfl⟩))
              go_roundw
              case rel => exact ⟨i + 1, by omega, by go_num, i64_eq (by rw [HC.out]; omega), (below3 (below3 hb)).setCell (Nat.le_refl _) _, (((((((hrow.alloc _).alloc _).alloc _).alloc _).alloc _).alloc _).set c _).congr (fun j _ => by rw [HC.out]; exact seen_step c j)⟩
              case measure => simp [intOf]; omega
          · cases ky
            · simp only [Bool.false_eq_true, if_false, Nat.add_zero] at HC
              go_wp2_with (first | (go_at_call 18; refine (fields_any _ _ _ _ _ _ _ _ _).mono ?_; rintro e w' ⟨rfl, o1, o2, rfl⟩))
              go_roundw
              case rel => exact ⟨i + 1, by omega, by go_num, i64_eq (by rw [HC.out]), below3 hb, (((hrow.alloc _).alloc _).alloc _).congr (fun j _ => by rw [HC.out])⟩
              case measure => simp [intOf]; omega
            · simp only [if_true] at HC
              have hrk := rank_lt HI.out HD.out rfl
              change rk = kc (ns.take i) ∧ rk < Xs.length at hrk
              have hrc : c = rk := by rw [hrk.1]; exact HCC.out.symm
              have hcn : c < Xs.length := by omega
              subst hrc
              have s1 := old3 (hrow.cell (i := c) hcn)
              have s6 := old6 (hrow.cell (i := c) hcn)
              have f1 := oldf3 (hrow.frozen c) hrow.lt
              have f6 := oldf6 (hrow.frozen c) hrow.lt
              have dcc : decide (c < c) = false := by simp
              have k1a : ¬ Xs.length ≤ c := by omega
              have k1b : (c : Int) < (Xs.length : Int) := by omega
              have k1c : decide (Xs.length ≤ c) = false := by simp; omega
              clear hrk
              go_wp2_with (first | (go_at_call 18; refine (fields_any _ _ _ _ _ _ _ _ _).mono ?_; rintro e w' ⟨rfl, o1, o2, rfl⟩))
              go_roundw
              case rel => exact ⟨i + 1, by omega, by go_num, i64_eq (by rw [HC.out]; omega), (below3 hb).setCell (Nat.le_refl _) _, ((((hrow.alloc _).alloc _).alloc _).set c _).congr (fun j _ => by rw [HC.out]; exact seen_step c j)⟩
              case measure => simp [intOf]; omega
        · change k = 2 at hk
          subst hk
          have hkf : ky = false := by cases ky; rfl; exact absurd (hkk1 rfl) (by decide)
          subst hkf
          clear hkk1
          simp only [Bool.false_eq_true, if_false, Nat.add_zero] at HC
          obtain ⟨ht, d2, g2, hd2, _, _, hk2, hk1⟩ := step_targ HI.out HD.out hgg (.inl rfl)
          change i < tg at ht
          change ns[tg]? = some d2 at hd2
          have htl := lt_of_get hd2
          have hkd : d2.kind = 3 := hk2 rfl
          obtain ⟨k2, l2, wv2, ww2, ky2, ch2, tg2, rk2⟩ := d2
          change k2 = 3 at hkd
          subst hkd
          have t0 := old3 (a := ⟨g, tg * 13, none⟩) (v := .int .i64 3) (hNr.cell tg _ 0 hd2 (by decide))
          have t1 := old3 (a := ⟨g, tg * 13 + 1, none⟩) (v := .bool l2) (hNr.cell tg _ 1 hd2 (by decide))
          have t2 := old3 (a := ⟨g, tg * 13 + 2, none⟩) (v := .int .u64 wv2) (hNr.cell tg _ 2 hd2 (by decide))
          have t3 := old3 (a := ⟨g, tg * 13 + 3, none⟩) (v := .int .i64 ww2) (hNr.cell tg _ 3 hd2 (by decide))
          have t4 := old3 (a := ⟨g, tg * 13 + 4, none⟩) (v := .bool ky2) (hNr.cell tg _ 4 hd2 (by decide))
          have t5 := old3 (a := ⟨g, tg * 13 + 5, none⟩) (v := .bool ch2) (hNr.cell tg _ 5 hd2 (by decide))
          have t6 := old3 (a := ⟨g, tg * 13 + 6, none⟩) (v := .int .i64 0) (hNr.cell tg _ 6 hd2 (by decide))
          have t7 := old3 (a := ⟨g, tg * 13 + 7, none⟩) (v := .int .i64 0) (hNr.cell tg _ 7 hd2 (by decide))
          have t8 := old3 (a := ⟨g, tg * 13 + 8, none⟩) (v := .int .u8 0) (hNr.cell tg _ 8 hd2 (by decide))
          have t9 := old3 (a := ⟨g, tg * 13 + 9, none⟩) (v := .int .i64 0) (hNr.cell tg _ 9 hd2 (by decide))
          have t10 := old3 (a := ⟨g, tg * 13 + 10, none⟩) (v := .int .i64 0) (hNr.cell tg _ 10 hd2 (by decide))
          have t11 := old3 (a := ⟨g, tg * 13 + 11, none⟩) (v := .int .i64 tg2) (hNr.cell tg _ 11 hd2 (by decide))
          have t12 := old3 (a := ⟨g, tg * 13 + 12, none⟩) (v := .int .i64 rk2) (hNr.cell tg _ 12 hd2 (by decide))
          have t1a : ¬ tg ≤ i := by omega
          have t1b : ¬ ns.length ≤ tg := by omega
          have t1c : (tg : Int) < (ns.length : Int) := by omega
          have t1d : decide (tg ≤ i) = false := by simp; omega
          have t1e : decide (ns.length ≤ tg) = false := by simp; omega
          clear hd2 hk1 hk2
          go_wp2_with (first | (go_at_call 18; refine (fields_any _ _ _ _ _ _ _ _ _).mono ?_; rintro e w' ⟨rfl, o1, o2, rfl⟩))
          go_roundw
          case rel => exact ⟨i + 1, by omega, by go_num, i64_eq (by rw [HC.out]), below3 (below3 hb), ((((((hrow.alloc _).alloc _).alloc _).alloc _).alloc _).alloc _).congr (fun j _ => by rw [HC.out])⟩
          case measure => simp [intOf]; omega
        · change k = 3 at hk
          subst hk
          have hkf : ky = false := by cases ky; rfl; exact absurd (hkk1 rfl) (by decide)
          subst hkf
          clear hkk1
          simp only [Bool.false_eq_true, if_false, Nat.add_zero] at HC
          go_wp2_with (first | (go_at_call 18; refine (fields_any _ _ _ _ _ _ _ _ _).mono ?_; rintro e w' ⟨rfl, o1, o2, rfl⟩))
          go_roundw
          case rel => exact ⟨i + 1, by omega, by go_num, i64_eq (by rw [HC.out]), below3 hb, (((hrow.alloc _).alloc _).alloc _).congr (fun j _ => by rw [HC.out])⟩
          case measure => simp [intOf]; omega
      · have he : kc (ns.take i) = Xs.length := by rw [← kc_all HI.out, List.take_of_length_le (by omega)]
        rw [he]
        clear he
        have e1 : ((Xs.length : Int) == (Xs.length : Int)) = true := by simp
        go_wp2
        go_ret
        exact ⟨rfl, hb13.trans (hb.mono hb13.size)⟩
end Go.Proofs.Qxb6001311a
