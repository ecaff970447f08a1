import Derived.Test.Qxb6001311aSegP
import Derived.Deep.LoopGhost
import Derived.Deep.DeepCutAuto
import Derived.Deep.AppendLies
import Derived.Deep.RegionHeld3
namespace Go.Proofs.Qxb6001311a
open Go.RowKit

set_option maxRecDepth 100000 in
set_option maxHeartbeats 4000000 in
theorem seg17 (b off cap : Nat) (Xs : List ByteArray) (w wc : World) (u3 : Value) (g4 c4 g5 : Nat) (t : Tk) (ts : List Tk) (ns2 : List Nd) (fr2 : Int) (a1 a2 a6 a7 a8 a9 a10 a11 a12 a13 a14 a15 a16 a17 a18 a19 a20 a21 a22 a23 a24 a25 a26 a27 a28 a29 a30 a31 a32 a33 a34 a35 a36 a37 a38 a39 a40 a41 a42 a43 a44 a45 a46 a47 a48 a49 a50 a51 a52 a53 a54 a55 a56 a57 a58 a59 a60 a61 a62 a63 a64 a65 a66 a67 a68 a69 a70 a71 a72 a73 a74 a75 a76 a77 a78 a79 a80 a81 a82 a83 a84 a85 a86 a87 a88 a89 a90 a91 a92 a93 a94 a95 a96 a97 a98 a99 a100 a101 a102 a103 a104 a105 a106 a107 a108 a109 a110 a111 a112 a113 a114 a115 a116 a117 a118 a119 a120 a121 a122 a123 a124 a125 a126 a127 a128 a129 a130 a131 a132 a133 a134 a135 a136 a137 a138 a139 a140 a141 a142 a143 a144 a145 a146 a147 a148 a149 a150 a151 a152 a153 a154 a155 a156 a157 a158 a159 a160 a161 a162 a163 a164 a165 a166 a167 a168 a169 a170 a171 a172 a173 a174 a175 a176 a177 a178 a179 a180 a181 a182 a183 a184 a185 : Value)
    (K : Act → World → Prop) (Q : Exit → Act → World → Prop)
    (hK : KeysAt w (some ⟨b, off, none⟩) b off Xs) (h0 : 0 < Xs.length) (hn : Xs.length ≤ 65536) (hs : ∀ X ∈ Xs, X.size ≤ 1048576)
    (hlo : t.lo < t.hi) (hhi : t.hi ≤ Xs.length) (hsz : ∀ i, t.lo ≤ i → i < t.hi → t.p ≤ (key Xs i).size)
    (HM3 : Hid (Mem w wc u3 (.slice (some ⟨g4, 0, none⟩) ts.length c4) (patch ns2 fr2) ts)) (HX3 : Hid (Box w wc u3 (.slice (some ⟨g4, 0, none⟩) ts.length c4) g5 t))
    (hKK : ∀ (n96 n97 n98 n99 n100 n101 n102 n103 n8 : Value) (wx : World), M8 Xs w u3 (.slice (some ⟨g4, 0, none⟩) ts.length c4) (patch ns2 fr2) ts g5 t n8 wx → K ⟨#[.slice (some ⟨b, off, none⟩) Xs.length cap, a1, a2, u3, .slice (some ⟨g4, 0, none⟩) ts.length c4, .pointer (some ⟨g5, 0, none⟩), a6, a7, n8, a9, a10, a11, a12, a13, a14, a15, a16, a17, a18, a19, a20, a21, a22, a23, a24, a25, a26, a27, a28, a29, a30, a31, a32, a33, a34, a35, a36, a37, a38, a39, a40, a41, a42, a43, a44, a45, a46, a47, a48, a49, a50, a51, a52, a53, a54, a55, a56, a57, a58, a59, a60, a61, a62, a63, a64, a65, a66, a67, a68, a69, a70, a71, a72, a73, a74, a75, a76, a77, a78, a79, a80, a81, a82, a83, a84, a85, a86, a87, a88, a89, a90, a91, a92, a93, a94, a95, n96, n97, n98, n99, n100, n101, n102, n103, a104, a105, a106, a107, a108, a109, a110, a111, a112, a113, a114, a115, a116, a117, a118, a119, a120, a121, a122, a123, a124, a125, a126, a127, a128, a129, a130, a131, a132, a133, a134, a135, a136, a137, a138, a139, a140, a141, a142, a143, a144, a145, a146, a147, a148, a149, a150, a151, a152, a153, a154, a155, a156, a157, a158, a159, a160, a161, a162, a163, a164, a165, a166, a167, a168, a169, a170, a171, a172, a173, a174, a175, a176, a177, a178, a179, a180, a181, a182, a183, a184, a185], []⟩ wx) :
    Code.wp Try.prog ((Try.f28.body.bind (regAt 17)).getD .skip) (Exit.then K Q) ⟨#[.slice (some ⟨b, off, none⟩) Xs.length cap, a1, a2, u3, .slice (some ⟨g4, 0, none⟩) ts.length c4, .pointer (some ⟨g5, 0, none⟩), a6, a7, a8, a9, a10, a11, a12, a13, a14, a15, a16, a17, a18, a19, a20, a21, a22, a23, a24, a25, a26, a27, a28, a29, a30, a31, a32, a33, a34, a35, a36, a37, a38, a39, a40, a41, a42, a43, a44, a45, a46, a47, a48, a49, a50, a51, a52, a53, a54, a55, a56, a57, a58, a59, a60, a61, a62, a63, a64, a65, a66, a67, a68, a69, a70, a71, a72, a73, a74, a75, a76, a77, a78, a79, a80, a81, a82, a83, a84, a85, a86, a87, a88, a89, a90, a91, a92, a93, a94, a95, a96, a97, a98, a99, a100, a101, a102, a103, a104, a105, a106, a107, a108, a109, a110, a111, a112, a113, a114, a115, a116, a117, a118, a119, a120, a121, a122, a123, a124, a125, a126, a127, a128, a129, a130, a131, a132, a133, a134, a135, a136, a137, a138, a139, a140, a141, a142, a143, a144, a145, a146, a147, a148, a149, a150, a151, a152, a153, a154, a155, a156, a157, a158, a159, a160, a161, a162, a163, a164, a165, a166, a167, a168, a169, a170, a171, a172, a173, a174, a175, a176, a177, a178, a179, a180, a181, a182, a183, a184, a185], []⟩ wc := by
  have KW := hK.below HM3.out.below
  have cl := HX3.out.lo
  have cp := HX3.out.p
  have kq := KW.key t.lo (by omega)
  have zq := hs _ (key_mem Xs t.lo (by omega))
  have pq := hsz t.lo (by omega) (by omega)
  have bl : b < wc.heap.size := (KW.addr h0).2
  have gl : g5 < wc.heap.size := HX3.out.lt
  have iq : (t.lo : Int) < (Xs.length : Int) := by omega
  have iq0 : (0 : Int) ≤ (t.lo : Int) := by omega
  have wq := wrapId (t.lo : Int) (by omega) (by omega)
  have kqa := fun o => keep17 (below_al wc o) bl gl ⟨kq, cl, cp⟩
  have HKK : Hid (∀ (n96 n97 n98 n99 n100 n101 n102 n103 n8 : Value) (wx : World), M8 Xs w u3 (.slice (some ⟨g4, 0, none⟩) ts.length c4) (patch ns2 fr2) ts g5 t n8 wx → K ⟨#[.slice (some ⟨b, off, none⟩) Xs.length cap, a1, a2, u3, .slice (some ⟨g4, 0, none⟩) ts.length c4, .pointer (some ⟨g5, 0, none⟩), a6, a7, n8, a9, a10, a11, a12, a13, a14, a15, a16, a17, a18, a19, a20, a21, a22, a23, a24, a25, a26, a27, a28, a29, a30, a31, a32, a33, a34, a35, a36, a37, a38, a39, a40, a41, a42, a43, a44, a45, a46, a47, a48, a49, a50, a51, a52, a53, a54, a55, a56, a57, a58, a59, a60, a61, a62, a63, a64, a65, a66, a67, a68, a69, a70, a71, a72, a73, a74, a75, a76, a77, a78, a79, a80, a81, a82, a83, a84, a85, a86, a87, a88, a89, a90, a91, a92, a93, a94, a95, n96, n97, n98, n99, n100, n101, n102, n103, a104, a105, a106, a107, a108, a109, a110, a111, a112, a113, a114, a115, a116, a117, a118, a119, a120, a121, a122, a123, a124, a125, a126, a127, a128, a129, a130, a131, a132, a133, a134, a135, a136, a137, a138, a139, a140, a141, a142, a143, a144, a145, a146, a147, a148, a149, a150, a151, a152, a153, a154, a155, a156, a157, a158, a159, a160, a161, a162, a163, a164, a165, a166, a167, a168, a169, a170, a171, a172, a173, a174, a175, a176, a177, a178, a179, a180, a181, a182, a183, a184, a185], []⟩ wx) := hKK
  clear hKK
  conv => arg 2; whnf
  go_region_held3 (fun w2 => w2.cell? ⟨b, off + t.lo, none⟩ = some (.string (key Xs t.lo)) ∧ w2.cell? ⟨g5, 0, none⟩ = some (.int .i64 t.lo) ∧ w2.cell? ⟨g5, 2, none⟩ = some (.int .i64 t.p))
    (first | exact ⟨kq, cl, cp⟩ | exact kqa (.cells #[.int .u64 0, .int .i64 0] 38) | exact kq2 | exact kq3 _ | exact kq4 _ _)
    (first
      | (go_at_call 37; refine (keyWord_k Xs t.lo t.p _ zq pq).mono ?_; rintro e w2 ⟨rfl, hb2⟩; have hb4 : Below wc.heap.size wc w2 := ⟨hb2.os, hb2.tape, hb2.output, hb2.size, hb2.block⟩; have kq2 := keep17 hb4 bl gl ⟨kq, cl, cp⟩; have kq3 := fun o => keep17 (hb4.alloc hb4.size o) bl gl ⟨kq, cl, cp⟩)
      | (go_at_call 37; refine (keyWord_k Xs t.lo t.p _ zq pq).mono ?_; rintro e w2 ⟨rfl, hb2⟩; have hb3 : Below (wc.alloc (.cells #[.int .u64 0, .int .i64 0] 38)).heap.size (wc.alloc (.cells #[.int .u64 0, .int .i64 0] 38)) w2 := ⟨hb2.os, hb2.tape, hb2.output, hb2.size, hb2.block⟩; obtain ⟨a0, a1, f0, f1⟩ := box38 hb3; have hb4 := below17 hb3; have kq2 := keep17 hb4 bl gl ⟨kq, cl, cp⟩; have kq3 := fun u => keep17 (below_set hb4 0 u) bl gl ⟨kq, cl, cp⟩; have kq4 := fun u v => keep17 (below_set (below_set hb4 0 u) 1 v) bl gl ⟨kq, cl, cp⟩))
  · exact HKK.out _ _ _ _ _ _ _ _ _ _ (m8_of HM3.out HX3.out (word8_a Xs t.lo t.p hb4))
  · exact HKK.out _ _ _ _ _ _ _ _ _ _ (m8_of HM3.out HX3.out (word8_b Xs t.lo t.p hb3))
end Go.Proofs.Qxb6001311a
