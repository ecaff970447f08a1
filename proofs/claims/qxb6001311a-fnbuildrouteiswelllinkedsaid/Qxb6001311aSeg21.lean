import Derived.Test.Qxb6001311aSegP
import Derived.Deep.LoopGhost
import Derived.Deep.DeepCutAuto
import Derived.Deep.AppendLies
import Derived.Deep.RegionHeld3
namespace Go.Proofs.Qxb6001311a
open Go.RowKit
set_option linter.unusedVariables false

set_option maxRecDepth 100000 in
set_option maxHeartbeats 4000000 in
theorem seg21 (b off cap : Nat) (Xs : List ByteArray) (w wc : World) (u3 : Value) (g4 c4 g5 : Nat) (t : Tk) (ts : List Tk) (g8 m : Nat) (ns2 : List Nd) (fr2 : Int) (a1 a2 a6 a7 a10 a11 a12 a13 a14 a15 a16 a17 a18 a19 a20 a21 a22 a23 a24 a25 a26 a27 a28 a29 a30 a31 a32 a33 a34 a35 a36 a37 a38 a39 a40 a41 a42 a43 a44 a45 a46 a47 a48 a49 a50 a51 a52 a53 a54 a55 a56 a57 a58 a59 a60 a61 a62 a63 a64 a65 a66 a67 a68 a69 a70 a71 a72 a73 a74 a75 a76 a77 a78 a79 a80 a81 a82 a83 a84 a85 a86 a87 a88 a89 a90 a91 a92 a93 a94 a95 a96 a97 a98 a99 a100 a101 a102 a103 a104 a105 a106 a107 a108 a109 a110 a111 a112 a113 a114 a115 a116 a117 a118 a119 a120 a121 a122 a123 a124 a125 a126 a127 a128 a129 a130 a131 a132 a133 a134 a135 a136 a137 a138 a139 a140 a141 a142 a143 a144 a145 a146 a147 a148 a149 a150 a151 a152 a153 a154 a155 a156 a157 a158 a159 a160 a161 a162 a163 a164 a165 a166 a167 a168 a169 a170 a171 a172 a173 a174 a175 a176 a177 a178 a179 a180 a181 a182 a183 a184 a185 : Value)
    (K : Act → World → Prop) (Q : Exit → Act → World → Prop) (hK : KeysAt w (some ⟨b, off, none⟩) b off Xs) (h0 : 0 < Xs.length) (hn : Xs.length ≤ 65536) (hs : ∀ X ∈ Xs, X.size ≤ 1048576) (hlo : t.lo < t.hi) (hhi : t.hi ≤ Xs.length) (hsz : ∀ i, t.lo ≤ i → i < t.hi → t.p ≤ (key Xs i).size)
    (K9 : Hid (M8 Xs w u3 (.slice (some ⟨g4, 0, none⟩) ts.length c4) (patch ns2 fr2) ts g5 t (.pointer (some ⟨g8, 0, none⟩)) wc))
    (hKK : ∀ (n10 n124 n125 n126 n127 n128 n129 n130 n131 n132 n133 n134 n135 : Value) (wx : World), n10 = .bool (owns Xs ⟨t.lo, t.hi, t.p⟩) ∧ Hid (M8 Xs w u3 (.slice (some ⟨g4, 0, none⟩) ts.length c4) (patch ns2 fr2) ts g5 t (.pointer (some ⟨g8, 0, none⟩)) wx) → K ⟨#[.slice (some ⟨b, off, none⟩) Xs.length cap, a1, a2, u3, .slice (some ⟨g4, 0, none⟩) ts.length c4, .pointer (some ⟨g5, 0, none⟩), a6, a7, .pointer (some ⟨g8, 0, none⟩), .int .i64 (m : Nat), n10, a11, a12, a13, a14, a15, a16, a17, a18, a19, a20, a21, a22, a23, a24, a25, a26, a27, a28, a29, a30, a31, a32, a33, a34, a35, a36, a37, a38, a39, a40, a41, a42, a43, a44, a45, a46, a47, a48, a49, a50, a51, a52, a53, a54, a55, a56, a57, a58, a59, a60, a61, a62, a63, a64, a65, a66, a67, a68, a69, a70, a71, a72, a73, a74, a75, a76, a77, a78, a79, a80, a81, a82, a83, a84, a85, a86, a87, a88, a89, a90, a91, a92, a93, a94, a95, a96, a97, a98, a99, a100, a101, a102, a103, a104, a105, a106, a107, a108, a109, a110, a111, a112, a113, a114, a115, a116, a117, a118, a119, a120, a121, a122, a123, n124, n125, n126, n127, n128, n129, n130, n131, n132, n133, n134, n135, a136, a137, a138, a139, a140, a141, a142, a143, a144, a145, a146, a147, a148, a149, a150, a151, a152, a153, a154, a155, a156, a157, a158, a159, a160, a161, a162, a163, a164, a165, a166, a167, a168, a169, a170, a171, a172, a173, a174, a175, a176, a177, a178, a179, a180, a181, a182, a183, a184, a185], []⟩ wx) :
    Code.wp Try.prog ((Try.f28.body.bind (regAt 21)).getD .skip) (Exit.then K Q) ⟨#[.slice (some ⟨b, off, none⟩) Xs.length cap, a1, a2, u3, .slice (some ⟨g4, 0, none⟩) ts.length c4, .pointer (some ⟨g5, 0, none⟩), a6, a7, .pointer (some ⟨g8, 0, none⟩), .int .i64 (m : Nat), a10, a11, a12, a13, a14, a15, a16, a17, a18, a19, a20, a21, a22, a23, a24, a25, a26, a27, a28, a29, a30, a31, a32, a33, a34, a35, a36, a37, a38, a39, a40, a41, a42, a43, a44, a45, a46, a47, a48, a49, a50, a51, a52, a53, a54, a55, a56, a57, a58, a59, a60, a61, a62, a63, a64, a65, a66, a67, a68, a69, a70, a71, a72, a73, a74, a75, a76, a77, a78, a79, a80, a81, a82, a83, a84, a85, a86, a87, a88, a89, a90, a91, a92, a93, a94, a95, a96, a97, a98, a99, a100, a101, a102, a103, a104, a105, a106, a107, a108, a109, a110, a111, a112, a113, a114, a115, a116, a117, a118, a119, a120, a121, a122, a123, a124, a125, a126, a127, a128, a129, a130, a131, a132, a133, a134, a135, a136, a137, a138, a139, a140, a141, a142, a143, a144, a145, a146, a147, a148, a149, a150, a151, a152, a153, a154, a155, a156, a157, a158, a159, a160, a161, a162, a163, a164, a165, a166, a167, a168, a169, a170, a171, a172, a173, a174, a175, a176, a177, a178, a179, a180, a181, a182, a183, a184, a185], []⟩ wc := by
  have HKK : Hid (∀ (n10 n124 n125 n126 n127 n128 n129 n130 n131 n132 n133 n134 n135 : Value) (wx : World), n10 = .bool (owns Xs ⟨t.lo, t.hi, t.p⟩) ∧ Hid (M8 Xs w u3 (.slice (some ⟨g4, 0, none⟩) ts.length c4) (patch ns2 fr2) ts g5 t (.pointer (some ⟨g8, 0, none⟩)) wx) → K ⟨#[.slice (some ⟨b, off, none⟩) Xs.length cap, a1, a2, u3, .slice (some ⟨g4, 0, none⟩) ts.length c4, .pointer (some ⟨g5, 0, none⟩), a6, a7, .pointer (some ⟨g8, 0, none⟩), .int .i64 (m : Nat), n10, a11, a12, a13, a14, a15, a16, a17, a18, a19, a20, a21, a22, a23, a24, a25, a26, a27, a28, a29, a30, a31, a32, a33, a34, a35, a36, a37, a38, a39, a40, a41, a42, a43, a44, a45, a46, a47, a48, a49, a50, a51, a52, a53, a54, a55, a56, a57, a58, a59, a60, a61, a62, a63, a64, a65, a66, a67, a68, a69, a70, a71, a72, a73, a74, a75, a76, a77, a78, a79, a80, a81, a82, a83, a84, a85, a86, a87, a88, a89, a90, a91, a92, a93, a94, a95, a96, a97, a98, a99, a100, a101, a102, a103, a104, a105, a106, a107, a108, a109, a110, a111, a112, a113, a114, a115, a116, a117, a118, a119, a120, a121, a122, a123, n124, n125, n126, n127, n128, n129, n130, n131, n132, n133, n134, n135, a136, a137, a138, a139, a140, a141, a142, a143, a144, a145, a146, a147, a148, a149, a150, a151, a152, a153, a154, a155, a156, a157, a158, a159, a160, a161, a162, a163, a164, a165, a166, a167, a168, a169, a170, a171, a172, a173, a174, a175, a176, a177, a178, a179, a180, a181, a182, a183, a184, a185], []⟩ wx) := hKK
  clear hKK
  obtain ⟨M9, X9, g8', e8, hg8, n3, n4, v0, v1⟩ := K9.out
  cases e8
  have q0 := X9.lo
  have q2 := X9.p
  have KW := hK.below M9.below
  have kq := KW.key t.lo (by omega)
  have zq := hs _ (key_mem Xs t.lo (by omega))
  have pq := hsz t.lo (by omega) (by omega)
  have iq : (t.lo : Int) < (Xs.length : Int) := by omega
  have iq0 : (0 : Int) ≤ (t.lo : Int) := by omega
  have hw8 : (wb (key Xs t.lo) t.p).length ≤ 8 := by have := wb_len (key Xs t.lo) t.p; omega
  have hp20 : t.p ≤ 1048576 := by omega
  have wpl := wrapId ((t.p : Int) + ((wb (key Xs t.lo) t.p).length : Int)) (by omega) (by omega)
  conv => arg 2; whnf
  by_cases ho : (key Xs t.lo).size = t.p + (wb (key Xs t.lo) t.p).length
  · have Ho : Hid (owns Xs ⟨t.lo, t.hi, t.p⟩ = true) := beq_iff_eq.2 ho
    have m1 : (((key Xs t.lo).size : Int) == (t.p : Int) + ((wb (key Xs t.lo) t.p).length : Int)) = true := by simp; omega
    clear ho
    go_quiet (fail)
    go_wp2_with fail
    exact HKK.out _ _ _ _ _ _ _ _ _ _ _ _ _ _ ⟨congrArg Value.bool Ho.out.symm, K9.out.under (below_drewN (Below.refl _ _) _)⟩
  · have Ho : Hid (owns Xs ⟨t.lo, t.hi, t.p⟩ = false) := beq_eq_false_iff_ne.2 ho
    have m1 : (((key Xs t.lo).size : Int) == (t.p : Int) + ((wb (key Xs t.lo) t.p).length : Int)) = false := by simp; omega
    clear ho
    go_quiet (fail)
    go_wp2_with fail
    exact HKK.out _ _ _ _ _ _ _ _ _ _ _ _ _ _ ⟨congrArg Value.bool Ho.out.symm, K9.out.under (below_drewN (Below.refl _ _) _)⟩
end Go.Proofs.Qxb6001311a
