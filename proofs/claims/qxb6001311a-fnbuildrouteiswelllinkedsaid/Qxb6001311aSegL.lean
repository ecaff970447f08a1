import Derived.Test.Qxb6001311aSegP
import Derived.Deep.LoopGhost
import Derived.Deep.DeepCutAuto
import Derived.Deep.AppendLies
import Derived.Deep.RegionHeld3
namespace Go.Proofs.Qxb6001311a
open Go.RowKit

/-- A block's body. -/
def inBlk : Code → Option Code
  | .block _ c => some c
  | _ => none
set_option maxRecDepth 100000 in
set_option maxHeartbeats 4000000 in
theorem segL (b off cap : Nat) (Xs : List ByteArray) (w wc : World) (u3 : Value) (g4 c4 g5 : Nat) (t : Tk) (ts : List Tk) (g8 : Nat) (ns2 : List Nd) (fr2 : Int) (a1 a2 a6 a7 a10 a11 a12 a13 a14 a15 a16 a17 a18 a19 a20 a21 a22 a23 a24 a25 a26 a27 a28 a29 a30 a31 a32 a33 a34 a35 a36 a37 a38 a39 a40 a41 a42 a43 a44 a45 a46 a47 a48 a49 a50 a51 a52 a53 a54 a55 a56 a57 a58 a59 a60 a61 a62 a63 a64 a65 a66 a67 a68 a69 a70 a71 a72 a73 a74 a75 a76 a77 a78 a79 a80 a81 a82 a83 a84 a85 a86 a87 a88 a89 a90 a91 a92 a93 a94 a95 a96 a97 a98 a99 a100 a101 a102 a103 a104 a105 a106 a107 a108 a109 a110 a111 a112 a113 a114 a115 a116 a117 a118 a119 a120 a121 a122 a123 a124 a125 a126 a127 a128 a129 a130 a131 a132 a133 a134 a135 a136 a137 a138 a139 a140 a141 a142 a143 a144 a145 a146 a147 a148 a149 a150 a151 a152 a153 a154 a155 a156 a157 a158 a159 a160 a161 a162 a163 a164 a165 a166 a167 a168 a169 a170 a171 a172 a173 a174 a175 a176 a177 a178 a179 a180 a181 a182 a183 a184 a185 : Value)
    (K : Act → World → Prop) (Q : Exit → Act → World → Prop) (hK : KeysAt w (some ⟨b, off, none⟩) b off Xs) (h0 : 0 < Xs.length) (hn : Xs.length ≤ 65536) (hs : ∀ X ∈ Xs, X.size ≤ 1048576) (hlo : t.lo < t.hi) (hhi : t.hi ≤ Xs.length) (hsz : ∀ i, t.lo ≤ i → i < t.hi → t.p ≤ (key Xs i).size)
    (H8 : Hid (M8 Xs w u3 (.slice (some ⟨g4, 0, none⟩) ts.length c4) (patch ns2 fr2) ts g5 t (.pointer (some ⟨g8, 0, none⟩)) wc))
    (hKK : ∀ (n9 n107 n108 n109 n110 n111 n112 n113 n114 n115 n116 n117 n118 n119 n120 n121 n122 n123 : Value) (wx : World), (∃ m : Nat, n9 = .int .i64 m ∧ m ≤ t.hi ∧ t.lo < m ∧ Hid (Grp Xs ⟨t.lo, t.hi, t.p⟩ m) ∧ Hid (M8 Xs w u3 (.slice (some ⟨g4, 0, none⟩) ts.length c4) (patch ns2 fr2) ts g5 t (.pointer (some ⟨g8, 0, none⟩)) wx)) → K ⟨#[.slice (some ⟨b, off, none⟩) Xs.length cap, a1, a2, u3, .slice (some ⟨g4, 0, none⟩) ts.length c4, .pointer (some ⟨g5, 0, none⟩), a6, a7, .pointer (some ⟨g8, 0, none⟩), n9, a10, a11, a12, a13, a14, a15, a16, a17, a18, a19, a20, a21, a22, a23, a24, a25, a26, a27, a28, a29, a30, a31, a32, a33, a34, a35, a36, a37, a38, a39, a40, a41, a42, a43, a44, a45, a46, a47, a48, a49, a50, a51, a52, a53, a54, a55, a56, a57, a58, a59, a60, a61, a62, a63, a64, a65, a66, a67, a68, a69, a70, a71, a72, a73, a74, a75, a76, a77, a78, a79, a80, a81, a82, a83, a84, a85, a86, a87, a88, a89, a90, a91, a92, a93, a94, a95, a96, a97, a98, a99, a100, a101, a102, a103, a104, a105, a106, n107, n108, n109, n110, n111, n112, n113, n114, n115, n116, n117, n118, n119, n120, n121, n122, n123, a124, a125, a126, a127, a128, a129, a130, a131, a132, a133, a134, a135, a136, a137, a138, a139, a140, a141, a142, a143, a144, a145, a146, a147, a148, a149, a150, a151, a152, a153, a154, a155, a156, a157, a158, a159, a160, a161, a162, a163, a164, a165, a166, a167, a168, a169, a170, a171, a172, a173, a174, a175, a176, a177, a178, a179, a180, a181, a182, a183, a184, a185], []⟩ wx) :
    Code.wp Try.prog (((Try.f28.body.bind (blockAt 2)).bind inBlk).getD .skip) (Exit.inBlock 2 (Exit.then K Q)) ⟨#[.slice (some ⟨b, off, none⟩) Xs.length cap, a1, a2, u3, .slice (some ⟨g4, 0, none⟩) ts.length c4, .pointer (some ⟨g5, 0, none⟩), a6, a7, .pointer (some ⟨g8, 0, none⟩), .int .i64 ((t.lo : Int) + 1), a10, a11, a12, a13, a14, a15, a16, a17, a18, a19, a20, a21, a22, a23, a24, a25, a26, a27, a28, a29, a30, a31, a32, a33, a34, a35, a36, a37, a38, a39, a40, a41, a42, a43, a44, a45, a46, a47, a48, a49, a50, a51, a52, a53, a54, a55, a56, a57, a58, a59, a60, a61, a62, a63, a64, a65, a66, a67, a68, a69, a70, a71, a72, a73, a74, a75, a76, a77, a78, a79, a80, a81, a82, a83, a84, a85, a86, a87, a88, a89, a90, a91, a92, a93, a94, a95, a96, a97, a98, a99, a100, a101, a102, a103, a104, a105, a106, a107, a108, a109, a110, a111, a112, a113, a114, a115, a116, a117, a118, a119, a120, a121, a122, a123, a124, a125, a126, a127, a128, a129, a130, a131, a132, a133, a134, a135, a136, a137, a138, a139, a140, a141, a142, a143, a144, a145, a146, a147, a148, a149, a150, a151, a152, a153, a154, a155, a156, a157, a158, a159, a160, a161, a162, a163, a164, a165, a166, a167, a168, a169, a170, a171, a172, a173, a174, a175, a176, a177, a178, a179, a180, a181, a182, a183, a184, a185], []⟩ wc := by
  have HKK : Hid (∀ (n9 n107 n108 n109 n110 n111 n112 n113 n114 n115 n116 n117 n118 n119 n120 n121 n122 n123 : Value) (wx : World), (∃ m : Nat, n9 = .int .i64 m ∧ m ≤ t.hi ∧ t.lo < m ∧ Hid (Grp Xs ⟨t.lo, t.hi, t.p⟩ m) ∧ Hid (M8 Xs w u3 (.slice (some ⟨g4, 0, none⟩) ts.length c4) (patch ns2 fr2) ts g5 t (.pointer (some ⟨g8, 0, none⟩)) wx)) → K ⟨#[.slice (some ⟨b, off, none⟩) Xs.length cap, a1, a2, u3, .slice (some ⟨g4, 0, none⟩) ts.length c4, .pointer (some ⟨g5, 0, none⟩), a6, a7, .pointer (some ⟨g8, 0, none⟩), n9, a10, a11, a12, a13, a14, a15, a16, a17, a18, a19, a20, a21, a22, a23, a24, a25, a26, a27, a28, a29, a30, a31, a32, a33, a34, a35, a36, a37, a38, a39, a40, a41, a42, a43, a44, a45, a46, a47, a48, a49, a50, a51, a52, a53, a54, a55, a56, a57, a58, a59, a60, a61, a62, a63, a64, a65, a66, a67, a68, a69, a70, a71, a72, a73, a74, a75, a76, a77, a78, a79, a80, a81, a82, a83, a84, a85, a86, a87, a88, a89, a90, a91, a92, a93, a94, a95, a96, a97, a98, a99, a100, a101, a102, a103, a104, a105, a106, n107, n108, n109, n110, n111, n112, n113, n114, n115, n116, n117, n118, n119, n120, n121, n122, n123, a124, a125, a126, a127, a128, a129, a130, a131, a132, a133, a134, a135, a136, a137, a138, a139, a140, a141, a142, a143, a144, a145, a146, a147, a148, a149, a150, a151, a152, a153, a154, a155, a156, a157, a158, a159, a160, a161, a162, a163, a164, a165, a166, a167, a168, a169, a170, a171, a172, a173, a174, a175, a176, a177, a178, a179, a180, a181, a182, a183, a184, a185], []⟩ wx) := hKK
  clear hKK
  have hp20 : t.p ≤ 1048576 := by have := hsz t.lo (by omega) (by omega); have := hs _ (key_mem Xs t.lo (by omega)); omega
  conv => arg 2; whnf
  go_wp2_with fail
  go_loopg [9] (t.hi - (t.lo + 1)) (fun gk2 s9 w9 => ∃ m : Nat, s9 = .int .i64 m ∧ gk2 + m = t.hi ∧ t.lo < m ∧ Hid (M8 Xs w u3 (.slice (some ⟨g4, 0, none⟩) ts.length c4) (patch ns2 fr2) ts g5 t (.pointer (some ⟨g8, 0, none⟩)) w9) ∧ Hid (∀ i, t.lo ≤ i → i < m → wb (key Xs i) t.p = wb (key Xs t.lo) t.p))
  case atStart => exact ⟨t.lo + 1, i64_eq (by omega), by omega, by omega, H8, fun i a b => by rw [show i = t.lo by omega]⟩
  case round =>
    obtain ⟨m, rfl, hgk2, hlm, K8, HS8⟩ := hrel
    obtain ⟨M9, X9, g8', e8, hg8, n3, n4, v0, v1⟩ := K8.out
    cases e8
    have q1 := X9.hi
    have q2 := X9.p
    obtain ⟨gb, hgb⟩ : ∃ gb : Bool, gb = decide (m < t.hi ∧ wb (key Xs m) t.p = wb (key Xs t.lo) t.p) := ⟨_, rfl⟩
    have HGB : Hid (gb = decide (m < t.hi ∧ wb (key Xs m) t.p = wb (key Xs t.lo) t.p)) := hgb
    clear hgb
    go_upto_region 19 with fail
    go_cut [121] from 107 to 123 (fun s9 wx => s9 = .bool gb ∧ Hid (M8 Xs w u3 (.slice (some ⟨g4, 0, none⟩) ts.length c4) (patch ns2 fr2) ts g5 t (.pointer (some ⟨g8, 0, none⟩)) wx))
    case first =>
      by_cases h1 : m < t.hi
      · have KW := hK.below M9.below
        have kq := KW.key m (by omega)
        have zq := hs _ (key_mem Xs m (by omega))
        have pq := hsz m (by omega) h1
        have iq : (m : Int) < (Xs.length : Int) := by omega
        have iq0 : (0 : Int) ≤ (m : Int) := by omega
        have iq1 : (m : Int) < (t.hi : Int) := by omega
        have wq := wrapId (m : Int) (by omega) (by omega)
        by_cases h2 : wb (key Xs m) t.p = wb (key Xs t.lo) t.p
        · have Hgb : Hid (gb = true) := by rw [HGB.out]; show decide _ = true; simp [h1, h2]
          have e1 : kv Xs m t.p = kv Xs t.lo t.p := by unfold kv; rw [h2]
          have e2 : (wb (key Xs m) t.p).length = (wb (key Xs t.lo) t.p).length := by rw [h2]
          clear h2
          go_region_held3 (fun w2 => w2.cell? ⟨b, off + m, none⟩ = some (.string (key Xs m)) ∧ w2.cell? ⟨g5, 1, none⟩ = some (.int .i64 t.hi) ∧ w2.cell? ⟨g5, 2, none⟩ = some (.int .i64 t.p) ∧ w2.cell? ⟨g8, 0, none⟩ = some (.int .u64 (kv Xs t.lo t.p)) ∧ w2.cell? ⟨g8, 1, none⟩ = some (.int .i64 (wb (key Xs t.lo) t.p).length))
            (first | exact ⟨kq, q1, q2, v0, v1⟩ | exact kq2)
            (first
              | (go_at_call 37; refine (keyWord_k Xs m t.p _ zq pq).mono ?_; rintro e w2 ⟨rfl, hb2⟩; have hb4 : Below wr.heap.size wr w2 := ⟨hb2.os, hb2.tape, hb2.output, hb2.size, hb2.block⟩; have kq2 := keep19 hb4 ⟨kq, q1, q2, v0, v1⟩))
          go_wp2_with fail
          go_meet
          exact ⟨by rw [Hgb.out], K8.out.under hb4⟩
        · have Hgb : Hid (gb = false) := by rw [HGB.out]; show decide _ = false; simp [h2]
          by_cases h3 : kv Xs m t.p = kv Xs t.lo t.p
          · have h4 : (wb (key Xs m) t.p).length ≠ (wb (key Xs t.lo) t.p).length := fun x => h2 (le_inj _ _ x h3)
            have m2 : (((wb (key Xs m) t.p).length : Int) == ((wb (key Xs t.lo) t.p).length : Int)) = false := by simp; omega
            clear h2 h4
            go_region_held3 (fun w2 => w2.cell? ⟨b, off + m, none⟩ = some (.string (key Xs m)) ∧ w2.cell? ⟨g5, 1, none⟩ = some (.int .i64 t.hi) ∧ w2.cell? ⟨g5, 2, none⟩ = some (.int .i64 t.p) ∧ w2.cell? ⟨g8, 0, none⟩ = some (.int .u64 (kv Xs t.lo t.p)) ∧ w2.cell? ⟨g8, 1, none⟩ = some (.int .i64 (wb (key Xs t.lo) t.p).length))
              (first | exact ⟨kq, q1, q2, v0, v1⟩ | exact kq2)
              (first
                | (go_at_call 37; refine (keyWord_k Xs m t.p _ zq pq).mono ?_; rintro e w2 ⟨rfl, hb2⟩; have hb4 : Below wr.heap.size wr w2 := ⟨hb2.os, hb2.tape, hb2.output, hb2.size, hb2.block⟩; have kq2 := keep19 hb4 ⟨kq, q1, q2, v0, v1⟩))
            go_wp2_with fail
            go_meet
            exact ⟨by rw [Hgb.out], K8.out.under hb4⟩
          · have m1 : ((kv Xs m t.p : Int) == (kv Xs t.lo t.p : Int)) = false := by simp; omega
            clear h2 h3
            go_region_held3 (fun w2 => w2.cell? ⟨b, off + m, none⟩ = some (.string (key Xs m)) ∧ w2.cell? ⟨g5, 1, none⟩ = some (.int .i64 t.hi) ∧ w2.cell? ⟨g5, 2, none⟩ = some (.int .i64 t.p) ∧ w2.cell? ⟨g8, 0, none⟩ = some (.int .u64 (kv Xs t.lo t.p)) ∧ w2.cell? ⟨g8, 1, none⟩ = some (.int .i64 (wb (key Xs t.lo) t.p).length))
              (first | exact ⟨kq, q1, q2, v0, v1⟩ | exact kq2)
              (first
                | (go_at_call 37; refine (keyWord_k Xs m t.p _ zq pq).mono ?_; rintro e w2 ⟨rfl, hb2⟩; have hb4 : Below wr.heap.size wr w2 := ⟨hb2.os, hb2.tape, hb2.output, hb2.size, hb2.block⟩; have kq2 := keep19 hb4 ⟨kq, q1, q2, v0, v1⟩))
            go_wp2_with fail
            go_meet
            exact ⟨by rw [Hgb.out], K8.out.under hb4⟩
      · have Hgb : Hid (gb = false) := by rw [HGB.out]; show decide _ = false; simp [h1]
        have hd : decide ((m : Int) < (t.hi : Int)) = false := by simp; omega
        have hd2 : decide (m < t.hi) = false := by simp; omega
        go_quiet (fail)
        go_wp2_with fail
        go_meet
        exact ⟨by rw [Hgb.out], K8.out.under (below_drewN (Below.refl _ _) _)⟩
    case rest =>
      obtain ⟨rfl, K9⟩ := hcut
      clear K8 M9 X9 q1 q2 hg8 n3 n4 v0 v1
      cases gb
      · have hG : Hid (Grp Xs ⟨t.lo, t.hi, t.p⟩ m) := grp_of hlm (by omega) HS8.out HGB.out
        go_wp2_with fail
        exact HKK.out _ _ _ _ _ _ _ _ _ _ _ _ _ _ _ _ _ _ _ ⟨m, rfl, by omega, hlm, hG, K9⟩
      · go_wp2_with fail
        have hgt := of_decide_eq_true HGB.out.symm
        go_roundg (gk - 1)
        case measure => omega
        case rel => exact ⟨m + 1, i64_eq (by omega), by omega, by omega, K9, fun i a b => by rcases Nat.lt_or_ge i m with h | h; exact HS8.out i a h; rw [show i = m by omega]; exact hgt.2⟩
end Go.Proofs.Qxb6001311a
