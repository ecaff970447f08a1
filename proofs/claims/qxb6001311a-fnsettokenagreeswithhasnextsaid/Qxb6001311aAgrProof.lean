import Derived.Test.Qxb6001311aTokAgr
import Derived.Test.Qxb6001311aTokOpen
import Derived.ProofKit
namespace Go.Proofs.Qxb6001311a
open Go.ChangeShapes Go.WideShapes Go.ChangeAt Go.RowKit

theorem agr_any (t k wv ww st nx kt vf v : Int) (l ky ch : Bool) (ht : 0 ≤ t ∧ t ≤ 255) (w : World) :
    Calls Try.prog 9 #[.agg #[.int .i64 k, .bool l, .int .u64 wv, .int .i64 ww, .bool ky, .bool ch, .int .i64 st, .int .i64 nx, .int .u8 kt, .int .i64 vf, .int .i64 v], .int .u8 t] w fun e w' => e = .returned (.bool true) ∧ Grown w w' := by
  obtain ⟨t0, t1⟩ := ht
  by_cases e0 : t = 0
  · subst e0; exact agr_G0 k wv ww st nx kt vf v l ky ch w
  by_cases e1 : t < 9
  · exact agr_A t (by omega) e1 k wv ww st nx kt vf v l ky ch w
  by_cases e2 : t = 9
  · subst e2; exact agr_B k wv ww st nx kt vf v l ky ch w
  by_cases e3 : t = 10
  · subst e3; exact agr_G1 k wv ww st nx kt vf v l ky ch w
  by_cases e4 : t < 19
  · exact agr_C t (by omega) e4 k wv ww st nx kt vf v l ky ch w
  by_cases e5 : t = 19
  · subst e5; exact agr_D k wv ww st nx kt vf v l ky ch w
  by_cases e6 : t = 20
  · subst e6; exact agr_G2 k wv ww st nx kt vf v l ky ch w
  by_cases e7 : t < 29
  · exact agr_E t (by omega) e7 k wv ww st nx kt vf v l ky ch w
  by_cases e8 : t = 29
  · subst e8; exact agr_G3 k wv ww st nx kt vf v l ky ch w
  by_cases e9 : t = 30
  · subst e9; exact agr_F k wv ww st nx kt vf v l ky ch w
  · exact agr_G4 t (by omega) t1 k wv ww st nx kt vf v l ky ch w

set_option maxRecDepth 100000 in
theorem agr_lifted (os : Os) (started : os.Started) (H : Type) (enc : TypeId × Value → H) :
    ReturnsInHanded {} Try.checked os 9 .any (Rows.fnSetTokenAgreesWithHasNextSpec.pre6 enc Try.prog Try.f9 Rows.fnSetTokenAgreesWithHasNextRow.domain false) (Rows.fnSetTokenAgreesWithHasNextSpec.post enc Try.prog Try.f9 false true false false) := by
  refine returnsInHanded_of_change (C := Try.checked) own started (by kernel_rfl) Try.func9
    (ChangeSpec.witness6 (enc := enc) (C := Try.checked) false ⟨#[], #[.agg #[.int .i64 0, .bool false, .int .u64 0, .int .i64 0, .bool false, .bool false, .int .i64 0, .int .i64 0, .int .u8 0, .int .i64 0, .int .i64 0], .int .u8 0], []⟩ 8 (by kernel_rfl) (by kernel_rfl) (by kernel_rfl) (by kernel_rfl)) ?_
  intro W base args ds gs before hval0 hW hcnd _
  have hval : ∀ (j : Nat) t v, Try.f9.params[j]? = some t → args[j]? = some v → Value.okWide Try.prog W .any base t v := hval0
  have hW' := hW
  obtain ⟨p, q, hA0, hV, rfl, hfz, hnd⟩ := hW
  have hA : DataW.TrodAll enc Try.prog W 0 (fun _ => true) true Try.f9.params.toList args.toList ds p := hA0
  rw [Try.params9] at hA hval
  obtain ⟨v0, v1, d0, d1, p0, p1, rfl, rfl, rfl, h0, h1⟩ := trodAll_two hA
  obtain ⟨rfl, rfl⟩ := trodVars_none hV
  obtain ⟨k, wv, ww, st, nx, kt, vf, v, l, ky, ch, rfl, rfl⟩ := open_branch (hval 0 45 v0 rfl rfl) h0
  obtain ⟨t, rfl, rfl, rfl, wt⟩ := open_int Try.underlying5 (hval 1 5 v1 rfl rfl) h1
  have ht : 0 ≤ t ∧ t ≤ 255 := by
    simp [Lit.wf, IntKind.min, IntKind.max, IntKind.signed, IntKind.bits] at wt
    omega
  clear hA0 hval0
  refine (agr_any t k wv ww st nx kt vf v l ky ch ht W).mono fun e W' ⟨he, hg⟩ => ?_
  subst he
  exact ⟨_, rfl, _, _, _, [], [], [], hW', trodAll_mk1 (shut_bool Try.underlying4 _), trodAll_mk2 (WideElems.Trod_stays laidOut (by kernel_rfl) (of_decide_eq_true (by kernel_rfl)) h0 (fun _ h => by cases h) (fun _ h => by cases h)) (shut_int Try.underlying5 wt), rfl, hg.frame _, fun h => by cases h⟩

theorem agrees_proved : Rows.FnSetTokenAgreesWithHasNextSaid :=
  OpenClaim.holds_of_wide 9 Try.f9 rfl rfl rfl rfl rfl rfl rfl ⟨rfl, rfl, rfl, rfl, rfl⟩ rfl rfl rfl rfl rfl (by kernel_rfl) Try.func9 (by kernel_rfl)
    (of_decide_eq_true (by kernel_rfl)) (by unfold Func.isWrapper; first | (rw [if_pos (by decide +kernel)]; kernel_rfl) | (rw [if_neg (by decide +kernel)]; exact ⟨rfl, rfl⟩))
    (fun os started H enc _ => agr_lifted os started H enc)
end Go.Proofs.Qxb6001311a
