import Derived.Test.Qxb6001311aBytes
namespace Go.Proofs.Qxb6001311a
open Go.RowKit

theorem info9 : (Try.prog.info? 9).map (fun i => (i.zero, i.size, i.bytes)) = some (some (.string ByteArray.empty), 1, 16) := by kernel_rfl

/-- The keys' copy. -/
def Cloned (w : World) (Xs : List ByteArray) (e : Ending) (w' : World) : Prop :=
  ∃ (a1 : Option Addr) (b1 off1 cap1 : Nat), e = .returned (.slice a1 Xs.length cap1) ∧ KeysAt w' a1 b1 off1 Xs ∧ Below w.heap.size w w'

theorem cloned_of_row {w wr : World} {Xs : List ByteArray} {g : Nat} (hr : wr.rowIs g 9 Xs.length (fun j => .string (if j < Xs.length then Xs.getD j ByteArray.empty else ByteArray.empty))) (hb : Below w.heap.size w wr) :
    Cloned w Xs (.returned (.slice (some ⟨g, 0, none⟩) Xs.length Xs.length)) wr := by
  refine ⟨some ⟨g, 0, none⟩, g, 0, Xs.length, rfl, ⟨fun _ => ⟨rfl, hr.lt⟩, fun j X h => ?_⟩, hb⟩
  have hj := (List.getElem?_eq_some_iff.1 h).1
  have := hr.cell hj
  simp only [hj, if_true, List.getD, h, Option.getD_some] at this
  simpa using this

theorem clone_step (Xs : List ByteArray) (k j : Nat) (h1 : k < Xs.length) : (if j = k then Value.string Xs[k] else .string (if j < k then Xs.getD j ByteArray.empty else ByteArray.empty)) = .string (if j < k + 1 then Xs.getD j ByteArray.empty else ByteArray.empty) := by
  rcases Nat.lt_trichotomy j k with h | h | h
  · rw [if_neg (by omega), if_pos h, if_pos (by omega)]
  · subst h; rw [if_pos rfl, if_pos (by omega)]; simp [List.getD, h1]
  · rw [if_neg (by omega), if_neg (by omega), if_neg (by omega)]

set_option maxHeartbeats 1000000 in
theorem clone_any (a0 : Option Addr) (b off cap : Nat) (Xs : List ByteArray) (w : World) (hK : KeysAt w a0 b off Xs) (hn : Xs.length ≤ 1048576) :
    Calls Try.prog 13 #[.slice a0 Xs.length cap] w fun e w' => Cloned w Xs e w' := by
  have q22 : ∀ (w : World) (a : Option Addr) (n c n' c' : Nat), (binOp .eql 22 (.slice a n c) (.slice none n' c')).run Try.prog w = .ok (.bool a.isNone) w := fun w a n c n' c' => Lib.run_eql_slice_nil w _ _ a n c n' c' Try.underlying22
  have hmk := fun wx => run_make_row' (P := Try.prog) 22 9 (.string ByteArray.empty) 16 Try.underlying22 info9 rfl .i64 .i64 Xs.length (by omega) (by omega) wx
  rcases a0 with _ | x
  · have h0 : Xs = [] := by
      rcases Nat.eq_zero_or_pos Xs.length with h | h
      · exact List.length_eq_zero_iff.1 h
      · have := (hK.addr h).1; cases this
    subst h0
    go_enter Try.func13, Try.ntmps13
    go_wp2
    go_ret
    exact ⟨none, 0, 0, 0, rfl, ⟨fun h => by simp at h, fun j X h => by simp at h⟩, Below.refl _ _⟩
  · go_enter Try.func13, Try.ntmps13
    go_wp2
    go_loopw [4] (fun i wr => ∃ k : Nat, k ≤ Xs.length ∧ i = .int .i64 k ∧ Below w.heap.size w wr ∧ wr.rowIs w.heap.size 9 Xs.length (fun j => .string (if j < k then Xs.getD j ByteArray.empty else ByteArray.empty))) (fun i _ => Xs.length - (intOf i).toNat)
    case atStart => exact ⟨0, by omega, rfl, (Below.refl _ _).alloc (Nat.le_refl _) _, (World.rowIs_made w _ _ 9).congr (fun j _ => by simp)⟩
    case round =>
      obtain ⟨k, hk, rfl, hb, hrow⟩ := hrel
      by_cases h1 : k < Xs.length
      · obtain ⟨e, hbl⟩ := hK.addr (by omega)
        obtain rfl := Option.some.inj e
        have c1 : wr.cell? ⟨b, off + k, none⟩ = some (.string Xs[k]) := (hb.cell (p := ⟨b, off + k, none⟩) hbl).trans (hK.get k h1)
        have c2 := hrow.cell h1
        have c3 := hrow.frozen k
        go_wp2
        go_roundw
        case rel => exact ⟨k + 1, by omega, by go_num, hb.setCell (Nat.le_refl _) _, (hrow.set k _).congr (fun j hj => clone_step Xs k j h1)⟩
        case measure => simp [intOf]; omega
      · go_wp2
        go_ret
        have hk' : k = Xs.length := by omega
        rw [hk'] at hrow
        exact cloned_of_row hrow hb
end Go.Proofs.Qxb6001311a
