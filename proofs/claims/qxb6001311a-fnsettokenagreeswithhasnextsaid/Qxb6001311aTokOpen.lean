import Derived.Test.Qxb6001311aRows
import Derived.ProofKit
namespace Go.Proofs.Qxb6001311a
open Go.ChangeShapes Go.WideShapes Go.ChangeAt Go.RowKit

theorem own : ownKnob Try.prog.godebug = none := by kernel_rfl
theorem laidOut : laidOutB Try.prog = true := by kernel_rfl
theorem cells45 : Try.prog.cellsOf 45 = 11 := by kernel_rfl
theorem cells3 : Try.prog.cellsOf 3 = 1 := by kernel_rfl
theorem cells4 : Try.prog.cellsOf 4 = 1 := by kernel_rfl
theorem cells5 : Try.prog.cellsOf 5 = 1 := by kernel_rfl
theorem cells32 : Try.prog.cellsOf 32 = 1 := by kernel_rfl

theorem array11 {α : Type} {cs : Array α} (h : cs.size = 11) : ∃ c0 c1 c2 c3 c4 c5 c6 c7 c8 c9 c10, cs = #[c0, c1, c2, c3, c4, c5, c6, c7, c8, c9, c10] := by
  obtain ⟨l⟩ := cs
  match l, h with
  | [c0, c1, c2, c3, c4, c5, c6, c7, c8, c9, c10], _ => exact ⟨c0, c1, c2, c3, c4, c5, c6, c7, c8, c9, c10, rfl⟩
theorem list11 {α : Type} {cs : List α} (h : cs.length = 11) : ∃ c0 c1 c2 c3 c4 c5 c6 c7 c8 c9 c10, cs = [c0, c1, c2, c3, c4, c5, c6, c7, c8, c9, c10] := by
  match cs, h with
  | [c0, c1, c2, c3, c4, c5, c6, c7, c8, c9, c10], _ => exact ⟨c0, c1, c2, c3, c4, c5, c6, c7, c8, c9, c10, rfl⟩

/-- A branch by value: its cells written out; it leads to no memory. -/
theorem open_branch {H : Type} {enc : TypeId × Value → H} {W : World} {base b0 : Nat} {spare : Nat → Bool} {held : Bool} {x : Value} {d : DataW H} {p : List MemPlace}
    (hv : Value.okWide Try.prog W .any b0 45 x) (h : DataW.Trod enc Try.prog W base spare held 45 x d p) :
    ∃ (k wv ww st nx kt vf v : Int) (l ky ch : Bool), x = .agg #[.int .i64 k, .bool l, .int .u64 wv, .int .i64 ww, .bool ky, .bool ch, .int .i64 st, .int .i64 nx, .int .u8 kt, .int .i64 vf, .int .i64 v] ∧ p = [] := by
  obtain ⟨cs, rfl, hsz⟩ := okWide_struct Try.underlying45 hv
  obtain ⟨c0, c1, c2, c3, c4, c5, c6, c7, c8, c9, c10, rfl⟩ := array11 (hsz.trans cells45)
  obtain ⟨fuel, hf⟩ := h
  obtain ⟨xs, n, _, hx, hl, hlen, hfs⟩ := DataW.trod_struct Try.underlying45 hf
  obtain ⟨y0, y1, y2, y3, y4, y5, y6, y7, y8, y9, y10, rfl⟩ := list11 hlen
  have g0 := hfs 0 _ rfl
  simp [Value.cells, cells3] at g0
  obtain ⟨k, e0, f0, _⟩ := DataW.trod_int Try.underlying3 g0
  simp at e0; subst e0
  have g1 := hfs 1 _ rfl
  simp [Value.cells, cells4] at g1
  obtain ⟨l, e1, f1⟩ := DataW.trod_bool Try.underlying4 g1
  simp at e1; subst e1
  have g2 := hfs 2 _ rfl
  simp [Value.cells, cells32] at g2
  obtain ⟨wv, e2, f2, _⟩ := DataW.trod_int Try.underlying32 g2
  simp at e2; subst e2
  have g3 := hfs 3 _ rfl
  simp [Value.cells, cells3] at g3
  obtain ⟨ww, e3, f3, _⟩ := DataW.trod_int Try.underlying3 g3
  simp at e3; subst e3
  have g4 := hfs 4 _ rfl
  simp [Value.cells, cells4] at g4
  obtain ⟨ky, e4, f4⟩ := DataW.trod_bool Try.underlying4 g4
  simp at e4; subst e4
  have g5 := hfs 5 _ rfl
  simp [Value.cells, cells4] at g5
  obtain ⟨ch, e5, f5⟩ := DataW.trod_bool Try.underlying4 g5
  simp at e5; subst e5
  have g6 := hfs 6 _ rfl
  simp [Value.cells, cells3] at g6
  obtain ⟨st, e6, f6, _⟩ := DataW.trod_int Try.underlying3 g6
  simp at e6; subst e6
  have g7 := hfs 7 _ rfl
  simp [Value.cells, cells3] at g7
  obtain ⟨nx, e7, f7, _⟩ := DataW.trod_int Try.underlying3 g7
  simp at e7; subst e7
  have g8 := hfs 8 _ rfl
  simp [Value.cells, cells5] at g8
  obtain ⟨kt, e8, f8, _⟩ := DataW.trod_int Try.underlying5 g8
  simp at e8; subst e8
  have g9 := hfs 9 _ rfl
  simp [Value.cells, cells3] at g9
  obtain ⟨vf, e9, f9, _⟩ := DataW.trod_int Try.underlying3 g9
  simp at e9; subst e9
  have g10 := hfs 10 _ rfl
  simp [Value.cells, cells3] at g10
  obtain ⟨v, e10, f10, _⟩ := DataW.trod_int Try.underlying3 g10
  simp at e10; subst e10
  refine ⟨k, wv, ww, st, nx, kt, vf, v, l, ky, ch, rfl, ?_⟩
  simp only [Prod.mk.injEq] at hx
  rw [hx.2]
  simp [f0, f1, f2, f3, f4, f5, f6, f7, f8, f9, f10]
end Go.Proofs.Qxb6001311a
