import Derived.Test.Qxb6001311aRead
import Derived.Test.Qxb6001311aInitP
namespace Go.Proofs.Qxb6001311a
open Go.RowKit

set_option maxHeartbeats 400000 in
theorem size_any (k : Int) (l ky ch : Bool) (wv ww tg rk : Nat) (hw : ww ≤ 8) (w : World) :
    Calls Try.prog 38 #[.agg #[.int .i64 k, .bool l, .int .u64 wv, .int .i64 ww, .bool ky, .bool ch, .int .i64 0, .int .i64 0, .int .u8 0, .int .i64 0, .int .i64 0, .int .i64 tg, .int .i64 rk]] w fun e w' =>
      e = .returned (.int .i64 (1 + ww + if ky then 2 else 0 : Nat)) ∧ ∃ c1 : Array Value, w' = w.alloc (.cells c1 42) := by
  cases ky
  · go_enter Try.func38, Try.ntmps38
    go_wp2
    go_ret
    exact ⟨ret_i64 (by simp), _, rfl⟩
  · go_enter Try.func38, Try.ntmps38
    go_wp2
    go_ret
    exact ⟨ret_i64 (by simp), _, rfl⟩

/-- hasNext through a pointer: it only reads. -/
theorem hasNext_p (g : Nat) (k : Int) (l : Bool) (w : World) (c0 : w.cell? ⟨g, 0, none⟩ = some (.int .i64 k)) (c1 : w.cell? ⟨g, 1, none⟩ = some (.bool l)) (hk : k = 1 ∨ k = 2 ∨ k = 3) :
    Calls Try.prog 34 #[.pointer (some ⟨g, 0, none⟩)] w fun e w' => (∃ r : Bool, e = .returned (.bool r)) ∧ w' = w := by
  rcases hk with rfl | rfl | rfl
  · cases l
    · go_enter Try.func34, Try.ntmps34
      go_wp2
      go_ret
      exact ⟨⟨_, rfl⟩, rfl⟩
    · go_enter Try.func34, Try.ntmps34
      go_wp2
      go_ret
      exact ⟨⟨_, rfl⟩, rfl⟩
  · go_enter Try.func34, Try.ntmps34
    go_wp2
    go_ret
    exact ⟨⟨_, rfl⟩, rfl⟩
  · go_enter Try.func34, Try.ntmps34
    go_wp2
    go_ret
    exact ⟨⟨_, rfl⟩, rfl⟩

theorem below2 {w wr : World} {a b : Obj} (h : Below w.heap.size w wr) : Below w.heap.size w ((wr.alloc a).alloc b) :=
  (h.alloc h.size a).alloc (by have := h.size; simp; omega) b

set_option maxRecDepth 100000 in
set_option maxHeartbeats 2000000 in
theorem fit_any (g cap b off cap2 : Nat) (Xs : List ByteArray) (ns : List Nd) (G : List Gh) (w : World) (hN : NdsAt w g ns) (hI : Inv Xs ns G []) (hK : KeysAt w (some ⟨b, off, none⟩) b off Xs) (h64 : ∀ X ∈ Xs, X.size ≤ 64)
    (hl : ns.length ≤ 16777216) (hn : Xs.length ≤ 65536) (hwid : ∀ (i : Nat) (d : Nd), ns[i]? = some d → d.ww ≤ 8) :
    Calls Try.prog 30 #[.slice (some ⟨g, 0, none⟩) ns.length cap, .slice (some ⟨b, off, none⟩) Xs.length cap2] w fun e w' => e = .returned (.bool true) ∧ Below w.heap.size w w' := by
  have HI : Hid (Inv Xs ns G []) := hI
  go_enter Try.func30, Try.ntmps30
  go_wp2
  go_loopg [5, 6, 11] ns.length (fun gk s5 s6 s11 wr => ∃ (i rb kb0 : Nat), s5 = .int .i64 rb ∧ s6 = .int .i64 kb0 ∧ s11 = .int .i64 i ∧ gk + i = ns.length ∧ Below w.heap.size w wr ∧ kb0 ≤ 16 * rb ∧ rb ≤ 13 * i ∧ kb0 ≤ 64 * i)
  case atStart => exact ⟨0, 0, 0, rfl, rfl, rfl, by omega, Below.refl _ _, by omega, by omega, by omega⟩
  case round =>
    obtain ⟨i, rb, kb0, rfl, rfl, rfl, hgk, hb, h1, h2, h3⟩ := hrel
    by_cases hi : i < ns.length
    · obtain ⟨d, hd⟩ : ∃ d, ns[i]? = some d := ⟨ns[i], List.getElem?_eq_getElem hi⟩
      have hii : (i : Int) < (ns.length : Int) := by omega
      have hNr := hN.below hb
      have hww := hwid i d hd
      have hgi : i < G.length := by rw [HI.out.len]; exact hi
      have hkk := kinds HI.out hd (List.getElem?_eq_getElem hgi)
      obtain ⟨k, l, wv, ww, ky, ch, tg, rk⟩ := d
      change ww ≤ 8 at hww
      change k = 1 ∨ k = 2 ∨ k = 3 at hkk
      have c0 : wr.cell? ⟨g, i * 13, none⟩ = some (.int .i64 k) := hNr.cell i _ 0 hd (by decide)
      have c1 : wr.cell? ⟨g, i * 13 + 1, none⟩ = some (.bool l) := hNr.cell i _ 1 hd (by decide)
      have c2 : wr.cell? ⟨g, i * 13 + 2, none⟩ = some (.int .u64 wv) := hNr.cell i _ 2 hd (by decide)
      have c3 : wr.cell? ⟨g, i * 13 + 3, none⟩ = some (.int .i64 ww) := hNr.cell i _ 3 hd (by decide)
      have c4 : wr.cell? ⟨g, i * 13 + 4, none⟩ = some (.bool ky) := hNr.cell i _ 4 hd (by decide)
      have c5 : wr.cell? ⟨g, i * 13 + 5, none⟩ = some (.bool ch) := hNr.cell i _ 5 hd (by decide)
      have c6 : wr.cell? ⟨g, i * 13 + 6, none⟩ = some (.int .i64 0) := hNr.cell i _ 6 hd (by decide)
      have c7 : wr.cell? ⟨g, i * 13 + 7, none⟩ = some (.int .i64 0) := hNr.cell i _ 7 hd (by decide)
      have c8 : wr.cell? ⟨g, i * 13 + 8, none⟩ = some (.int .u8 0) := hNr.cell i _ 8 hd (by decide)
      have c9 : wr.cell? ⟨g, i * 13 + 9, none⟩ = some (.int .i64 0) := hNr.cell i _ 9 hd (by decide)
      have c10 : wr.cell? ⟨g, i * 13 + 10, none⟩ = some (.int .i64 0) := hNr.cell i _ 10 hd (by decide)
      have c11 : wr.cell? ⟨g, i * 13 + 11, none⟩ = some (.int .i64 tg) := hNr.cell i _ 11 hd (by decide)
      have c12 : wr.cell? ⟨g, i * 13 + 12, none⟩ = some (.int .i64 rk) := hNr.cell i _ 12 hd (by decide)
      have HD : Hid (ns[i]? = some ⟨k, l, wv, ww, ky, ch, tg, rk⟩) := hd
      have HK3 : Hid (k = 1 ∨ k = 2 ∨ k = 3) := hkk
      clear hd hI hNr hkk
      cases ky
      · go_wp2_with (first | (go_at_call 38; refine (size_any _ _ _ _ _ _ _ _ hww _).mono ?_; rintro e w' ⟨rfl, o1, rfl⟩))
        refine (hasNext_p wr.heap.size k l _ (by simp [go_sem]) (by simp [go_sem]) HK3.out).mono ?_
        rintro e w' ⟨⟨r, rfl⟩, rfl⟩
        cases r
        · go_wp2
          go_roundg (ns.length - (i + 1))
          case measure => omega
          case rel => exact ⟨i + 1, rb + (1 + ww + 0) + 0, kb0, i64_eq (by omega), i64_eq (by omega), i64_eq (by omega), by omega, below2 hb, by omega, by omega, by omega⟩
        · go_wp2
          go_roundg (ns.length - (i + 1))
          case measure => omega
          case rel => exact ⟨i + 1, rb + (1 + ww + 0) + 1, kb0, i64_eq (by omega), i64_eq (by omega), i64_eq (by omega), by omega, below2 hb, by omega, by omega, by omega⟩
      · have hr := (rank_lt HI.out HD.out rfl).2
        change rk < Xs.length at hr
        have hri : (rk : Int) < (Xs.length : Int) := by omega
        have KWr := hK.below hb
        have ck := KWr.key rk hr
        have zk := h64 _ (key_mem Xs rk hr)
        have hbl : b < wr.heap.size := (KWr.addr (by omega)).2
        have hne : b ≠ wr.heap.size := by omega
        have hne1 : b ≠ wr.heap.size + 1 := by omega
        go_wp2_with (first | (go_at_call 38; refine (size_any _ _ _ _ _ _ _ _ hww _).mono ?_; rintro e w' ⟨rfl, o1, rfl⟩))
        refine (hasNext_p wr.heap.size k l _ (by simp [go_sem]) (by simp [go_sem]) HK3.out).mono ?_
        rintro e w' ⟨⟨r, rfl⟩, rfl⟩
        have ck2 : ((wr.alloc (.cells #[.int .i64 k, .bool l, .int .u64 wv, .int .i64 ww, .bool true, .bool ch, .int .i64 0, .int .i64 0, .int .u8 0, .int .i64 0, .int .i64 0, .int .i64 tg, .int .i64 rk] 42)).alloc (.cells o1 42)).cell? ⟨b, off + rk, none⟩ = some (.string (key Xs rk)) := by
          rw [(below2 (Below.refl wr.heap.size wr)).cell (p := ⟨b, off + rk, none⟩) hbl]; exact ck
        cases r
        · go_wp2
          go_roundg (ns.length - (i + 1))
          case measure => omega
          case rel => exact ⟨i + 1, rb + (1 + ww + 2) + 0 + 1, kb0 + (key Xs rk).size, i64_eq (by omega), i64_eq (by omega), i64_eq (by omega), by omega, below2 hb, by omega, by omega, by omega⟩
        · go_wp2
          go_roundg (ns.length - (i + 1))
          case measure => omega
          case rel => exact ⟨i + 1, rb + (1 + ww + 2) + 1 + 1, kb0 + (key Xs rk).size, i64_eq (by omega), i64_eq (by omega), i64_eq (by omega), by omega, below2 hb, by omega, by omega, by omega⟩
    · go_wp2
      go_ret
      exact ⟨rfl, hb⟩
end Go.Proofs.Qxb6001311a
