/- The walk of split. -/
import Derived.Test.Qxb6001311aClone
import Derived.Test.Qxb6001311aLvlP
import Derived.OwnWalk
import Derived.Deep.QuietTactic
import Derived.BigQuiet
namespace Go.Proofs.Qxb6001311a
open Go.RowKit

theorem info3 : (Try.prog.info? 3).map (fun i => (i.zero, i.size, i.bytes)) = some (some (.int .i64 0), 1, 8) := by kernel_rfl
theorem KeysAt.key {w : World} {a0 : Option Addr} {b off : Nat} {Xs : List ByteArray} (h : KeysAt w a0 b off Xs) (j : Nat) (hj : j < Xs.length) : w.cell? ⟨b, off + j, none⟩ = some (.string (key Xs j)) := by
  rw [key_eq Xs j hj]; exact h.get j hj
theorem KeysAt.below {w w' : World} {a0 : Option Addr} {b off : Nat} {Xs : List ByteArray} (h : KeysAt w a0 b off Xs) (hb : Below w.heap.size w w') : KeysAt w' a0 b off Xs :=
  ⟨fun h0 => ⟨(h.addr h0).1, Nat.lt_of_lt_of_le (h.addr h0).2 hb.size⟩, fun j X e => by
    have h0 : 0 < Xs.length := by have := (List.getElem?_eq_some_iff.1 e).1; omega
    exact (hb.cell (p := ⟨b, off + j, none⟩) (h.addr h0).2).trans (h.cell j X e)⟩
theorem own_below {w w' : World} {B e size n : Nat} {v : Value} {xs : List Value} (h : w.ownsRow B e size v n xs) (hb : Below w.heap.size w w') : w'.ownsRow B e size v n xs :=
  h.kept (row := none) ⟨hb.os, hb.tape, hb.output, hb.size, fun k hk _ => hb.block k hk⟩ (by cases v.ownBlock <;> simp)

def SplitRes (Xs : List ByteArray) (lo hi p : Nat) (e : Ending) : Prop :=
  e = .returned (.tuple #[.int .i64 0, .bool false]) ∨ ∃ m : Nat, e = .returned (.tuple #[.int .i64 m, .bool true]) ∧ lo < m ∧ m < hi ∧ kv Xs (m - 1) p ≠ kv Xs m p

theorem keyWord_k (Xs : List ByteArray) (i p : Nat) (w : World) (hs : (key Xs i).size ≤ 1048576) (hp : p ≤ (key Xs i).size) :
    Calls Try.prog 37 #[.string (key Xs i), .int .i64 p] w fun e w' => e = .returned (.agg #[.int .u64 (kv Xs i p), .int .i64 (wb (key Xs i) p).length]) ∧ Below w.heap.size w w' := keyWord_in (key Xs i) p w hs hp

theorem field38 (x y : Int) (w : World) : (Instr.field 38 (.agg #[.int .u64 x, .int .i64 y]) 0).run Try.prog w = .ok (.int .u64 x) w := by kernel_rfl

theorem keep2 {wr W0 w' : World} {b o1 o2 : Nat} {X Y : Value} (hb : Below W0.heap.size W0 w') (h : Below wr.heap.size wr W0 ∧ b < wr.heap.size ∧ W0.cell? ⟨b, o1, none⟩ = some X ∧ W0.cell? ⟨b, o2, none⟩ = some Y) :
    Below wr.heap.size wr w' ∧ b < wr.heap.size ∧ w'.cell? ⟨b, o1, none⟩ = some X ∧ w'.cell? ⟨b, o2, none⟩ = some Y := by
  have hl : b < W0.heap.size := Nat.lt_of_lt_of_le h.2.1 h.1.size
  exact ⟨h.1.trans (hb.mono h.1.size), h.2.1, (hb.cell (p := ⟨b, o1, none⟩) hl).trans h.2.2.1, (hb.cell (p := ⟨b, o2, none⟩) hl).trans h.2.2.2⟩

theorem ownsRow_form' {w : World} {base size n : Nat} {e : TypeId} {v : Value} {xs : List Value} (h : w.ownsRow base e size v n xs) (hn : 0 < n) : ∃ g cap, v = .slice (some ⟨g, 0, none⟩) n cap := by
  rcases h.2 with ⟨_, h0⟩ | ⟨g, cap, _, hv, _⟩
  · omega
  · exact ⟨g, cap, hv⟩

theorem below_append {B nq : Nat} {w wr w1 : World} {o : Obj} {row : Option Nat} (hnx : Below B w wr) (hB : B ≤ wr.heap.size) (hgrow : ((wr.drewN nq).alloc o).grownBy w1 row) (hr : ∀ k, row = some k → B ≤ k) : Below B w w1 :=
  ((below_drewN hnx nq).alloc hB o).grown hgrow (by simp; omega) hr

set_option maxHeartbeats 1000000 in
theorem split_any (b off cap : Nat) (Xs : List ByteArray) (lo hi p : Nat) (w : World) (hK : KeysAt w (some ⟨b, off, none⟩) b off Xs) (hlo : lo < hi) (hhi : hi ≤ Xs.length) (hn : Xs.length ≤ 1048576)
    (hs : ∀ X ∈ Xs, X.size ≤ 1048576) (hp : ∀ i, lo ≤ i → i < hi → p ≤ (key Xs i).size) :
    Calls Try.prog 36 #[.slice (some ⟨b, off, none⟩) Xs.length cap, .int .i64 lo, .int .i64 hi, .int .i64 p] w fun e w' => SplitRes Xs lo hi p e ∧ Below w.heap.size w w' := by
  obtain ⟨ti, hi0, hz0, hz1, hz2⟩ := info_parts info3
  have hfd := field38
  go_enter Try.func36, Try.ntmps36
  go_wp2
  go_loopw [10, 11] (fun st i wr => ∃ (k : Nat) (S : List Nat), lo ≤ k ∧ k ≤ hi ∧ i = .int .i64 k ∧ wr.ownsRow w.heap.size 3 1 st S.length (S.map (fun s : Nat => Value.int .i64 s)) ∧ Below w.heap.size w wr ∧ Hid (StOk Xs lo p k S)) (fun _ i _ => hi - (intOf i).toNat)
  case atStart => exact ⟨lo, [], by omega, by omega, rfl, World.ownsRow_nil _ _ _ _, Below.refl _ _, stOk_nil _ _ _⟩
  case round =>
    obtain ⟨k, S, hk1, hk2, rfl, hown, hnx, HS⟩ := hrel
    have hsz := hnx.size
    have hSl := HS.out.len
    by_cases h1 : k < hi
    · by_cases h2 : k = lo
      · subst h2
        have e1 : ((k : Int) == (k : Int)) = true := by simp
        have hS0 : S = [] := List.length_eq_zero_iff.1 (by omega)
        subst hS0
        go_wp2
        go_quiet (fail)
        go_wp2_with (at_builtin; refine wpList_append_own _ rfl (.tmp 39) (.tmp 41) 71 rfl w.heap.size 3 ti (.int .i64 0) 1 8 Try.underlying71 hi0 hz0 hz1 hz2 rfl (by decide) _ _ _ rfl (World.ownsRow.alloc (w := wr.drewN _) hown _) ⟨wr.heap.size, 0, none⟩ 1 1 [.int .i64 k] rfl rfl ?c1 ?c2 ?c3 ?c4 ?c5 ?_)
        case c1 => exact cell_one_new _ _ _
        case c2 => intro u hu; simp at hu; subst hu; rfl
        case c3 => simp [maxLen]
        case c4 => simp
        case c5 => simp; omega
        intro v' w1 hown' hgrow _
        go_wp2
        go_roundw
        case rel => exact ⟨k + 1, [k], by omega, by omega, by go_num, hown', below_append hnx hsz hgrow (fun j hj => (hown.lt j hj).1), stOk_first _ _ _⟩
        case measure => simp [intOf]; omega
      · obtain ⟨m, rfl⟩ : ∃ m, k = m + 1 := ⟨k - 1, by omega⟩
        have e1 : (((m : Int) + 1) == (lo : Int)) = false := by simp; omega
        have i0 : (m : Int) < (Xs.length : Int) := by omega
        have i1 : (m : Int) + 1 < (Xs.length : Int) := by omega
        have p0 : (0 : Int) ≤ (m : Int) := by omega
        have p1 : (0 : Int) ≤ (m : Int) + 1 := by omega
        have wm := wrapId (m : Int) (by omega) (by omega)
        have wm1 := wrapId ((m : Int) + 1) (by omega) (by omega)
        obtain ⟨_, hbl⟩ := hK.addr (by omega)
        have hbl' : b < wr.heap.size := by omega
        have c0 : wr.cell? ⟨b, off + m, none⟩ = some (.string (key Xs m)) := (hnx.cell (p := ⟨b, off + m, none⟩) hbl).trans (hK.key m (by omega))
        have c1 : wr.cell? ⟨b, off + (m + 1), none⟩ = some (.string (key Xs (m + 1))) := (hnx.cell (p := ⟨b, off + (m + 1), none⟩) hbl).trans (hK.key (m + 1) (by omega))
        have z0 := hs _ (key_mem Xs m (by omega))
        have z1 := hs _ (key_mem Xs (m + 1) (by omega))
        have q0 := hp m (by omega) (by omega)
        have q1 := hp (m + 1) (by omega) (by omega)
        by_cases hv : kv Xs m p = kv Xs (m + 1) p
        · have hvB : ((kv Xs (m + 1) p : Int) != (kv Xs m p : Int)) = false := by simp; omega
          go_wp2
          go_region_held3 (fun w' => Below wr.heap.size wr w' ∧ b < wr.heap.size ∧ w'.cell? ⟨b, off + m, none⟩ = some (.string (key Xs m)) ∧ w'.cell? ⟨b, off + (m + 1), none⟩ = some (.string (key Xs (m + 1))))
            (first | exact ⟨below_drewN (Below.refl _ _) 1, hbl', c0, c1⟩ | exact keep2 (by assumption) (by assumption))
            (first
              | (go_at_call 37; refine (keyWord_k Xs _ p _ (by assumption) (by assumption)).mono ?_; rintro e w' ⟨rfl, hb⟩))
          obtain ⟨hb2, _⟩ := ‹Below wr.heap.size wr w' ∧ _›
          have hown2 := own_below hown hb2
          have hnx2 := hnx.trans (hb2.mono hsz)
          have hsz2 := hnx2.size
          go_wp2_with fail
          go_roundw
          case rel => exact ⟨m + 1 + 1, S, by omega, by omega, by go_num, hown2, hnx2, HS.out.skip (by omega)⟩
          case measure => simp [intOf]; omega
        · have hvB : ((kv Xs (m + 1) p : Int) != (kv Xs m p : Int)) = true := by simp; omega
          go_wp2
          go_region_held3 (fun w' => Below wr.heap.size wr w' ∧ b < wr.heap.size ∧ w'.cell? ⟨b, off + m, none⟩ = some (.string (key Xs m)) ∧ w'.cell? ⟨b, off + (m + 1), none⟩ = some (.string (key Xs (m + 1))))
            (first | exact ⟨below_drewN (Below.refl _ _) 1, hbl', c0, c1⟩ | exact keep2 (by assumption) (by assumption))
            (first
              | (go_at_call 37; refine (keyWord_k Xs _ p _ (by assumption) (by assumption)).mono ?_; rintro e w' ⟨rfl, hb⟩))
          obtain ⟨hb2, _⟩ := ‹Below wr.heap.size wr w' ∧ _›
          have hown2 := own_below hown hb2
          have hnx2 := hnx.trans (hb2.mono hsz)
          have hsz2 := hnx2.size
          go_wp2_with (at_builtin; refine wpList_append_own _ rfl (.tmp 39) (.tmp 41) 71 rfl w.heap.size 3 ti (.int .i64 0) 1 8 Try.underlying71 hi0 hz0 hz1 hz2 rfl (by decide) _ _ _ rfl (World.ownsRow.alloc hown2 _) ⟨w'.heap.size, 0, none⟩ 1 1 [.int .i64 ((m : Int) + 1)] rfl rfl ?c1 ?c2 ?c3 ?c4 ?c5 ?_)
          case c1 => exact cell_one_new _ _ _
          case c2 => intro u hu; simp at hu; subst hu; rfl
          case c3 => unfold maxLen; omega
          case c4 => omega
          case c5 => simp; omega
          intro v' w1 hown' hgrow _
          go_wp2
          go_roundw
          case rel => exact ⟨m + 1 + 1, S ++ [m + 1], by omega, by omega, by go_num, by simpa using hown', below_append (nq := 0) hnx2 hsz2 hgrow (fun j hj => (hown.lt j hj).1), HS.out.push (by omega) (by simpa using hv)⟩
          case measure => simp [intOf]; omega
    · have hk : k = hi := by omega
      subst hk
      by_cases h4 : (S.length : Int) < 4
      · rcases hown.2 with ⟨hv, _⟩ | ⟨g, cp, cur, hv, _⟩
        all_goals
          rw [hv]
          go_wp2
          go_ret2
          exact ⟨.inl rfl, hnx⟩
      · obtain ⟨g, cp, hv⟩ := ownsRow_form' hown (by omega)
        subst hv
        have hj : S.length / 2 < S.length := by omega
        have hpk := HS.out.pick (S.length / 2) hj (by omega)
        obtain ⟨mid, hmid⟩ : ∃ mid, mid = S.getD (S.length / 2) 0 := ⟨_, rfl⟩
        rw [← hmid] at hpk
        have cm : wr.cell? ⟨g, S.length / 2, none⟩ = some (.int .i64 (mid : Nat)) := by
          rw [hown.cellAt (S.length / 2) (by omega), List.getElem?_map, List.getElem?_eq_getElem hj, hmid]
          simp [List.getD, hj]
        have ix : (S.length : Int) / 2 < S.length := by omega
        have ix0 : (0 : Int) ≤ (S.length : Int) / 2 := by omega
        clear hmid
        go_wp2
        go_ret2
        exact ⟨.inr ⟨mid, rfl, hpk⟩, hnx⟩
end Go.Proofs.Qxb6001311a
