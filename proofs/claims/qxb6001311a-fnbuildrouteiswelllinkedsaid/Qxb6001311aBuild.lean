/- The walk of buildRoute, out of its segments. -/
import Derived.Test.Qxb6001311aSegA
import Derived.Test.Qxb6001311aSegB
import Derived.Test.Qxb6001311aSegC
import Derived.Test.Qxb6001311aSeg17
import Derived.Test.Qxb6001311aSegL
import Derived.Test.Qxb6001311aSeg21
import Derived.Test.Qxb6001311aSeg25
import Derived.Test.Qxb6001311aSeg160
import Derived.Deep.LoopGhost
import Derived.Deep.DeepCutAuto
import Derived.Deep.AppendLies
import Derived.Deep.RegionHeld3
namespace Go.Proofs.Qxb6001311a
open Go.RowKit

set_option maxRecDepth 100000 in
set_option maxHeartbeats 4000000 in
theorem build_any (b off cap : Nat) (Xs : List ByteArray) (w : World) (hK : KeysAt w (some ⟨b, off, none⟩) b off Xs) (h0 : 0 < Xs.length) (hn : Xs.length ≤ 65536)
    (hs : ∀ X ∈ Xs, X.size ≤ 1048576) (hS : Sorted Xs) (B : Nat) (hB : B ≤ 16777216) (hB0 : Bld Xs B [] [] [⟨0, Xs.length, 0, false, false, -1⟩]) :
    Calls Try.prog 28 #[.slice (some ⟨b, off, none⟩) Xs.length cap] w fun e w' => Built Xs B w e w' := by
  have hn0 : ((Xs.length : Int) == 0) = false := beq_eq_false_iff_ne.2 (by omega)
  obtain ⟨ti42, hi42, hz42, hs42, hb42⟩ := info_parts info42
  obtain ⟨ti64, hi64, hz64, hs64, hb64⟩ := info_parts info64
  go_enter Try.func28, Try.ntmps28
  go_wp2
  go_loopg [3, 4] (meas Xs [⟨0, Xs.length, 0, false, false, -1⟩] + 1) (fun gk v3 v4 wr => ∃ ns G ts, Bld Xs B ns G ts ∧ meas Xs ts < gk ∧ Mem w wr v3 v4 ns ts)
  case atStart => exact ⟨[], [], [⟨0, Xs.length, 0, false, false, -1⟩], hB0, Nat.lt_succ_self _, mem_start w Xs.length⟩
  case round =>
    obtain ⟨ns, G, ts, hBld, hm, hM⟩ := hrel
    rcases ts with _ | ⟨t, ts⟩
    · rcases hM.tasks.2 with ⟨hv, _⟩ | ⟨g4, c4, _, hv, _⟩
      all_goals
        subst hv
        have HB9 : Hid (Built Xs B w (.returned u3) wr) := ⟨u3, ns, G, rfl, hBld, hM.below, hM.nodes, World.ownsRow_nil _ _ _ _, fun k _ h => by simp [Value.ownBlock] at h⟩
        clear hM hBld hm
        go_wp2
        go_ret
        exact HB9.out
    · obtain ⟨g4, c4, hv4⟩ := ownsRow_form' hM.tasks (by simp)
      subst hv4
      have hlens := hBld.lens
      rw [List.length_cons] at hlens
      have htl : ts.length ≤ 8388608 := by omega
      have k0 : wr.cell? ⟨g4, ts.length * 6, none⟩ = some (.int .i64 t.lo) := hM.top 0 (by decide)
      have k1 : wr.cell? ⟨g4, ts.length * 6 + 1, none⟩ = some (.int .i64 t.hi) := hM.top 1 (by decide)
      have k2 : wr.cell? ⟨g4, ts.length * 6 + 2, none⟩ = some (.int .i64 t.p) := hM.top 2 (by decide)
      have k3 : wr.cell? ⟨g4, ts.length * 6 + 3, none⟩ = some (.bool t.chain) := hM.top 3 (by decide)
      have k4 : wr.cell? ⟨g4, ts.length * 6 + 4, none⟩ = some (.bool t.els) := hM.top 4 (by decide)
      have k5 : wr.cell? ⟨g4, ts.length * 6 + 5, none⟩ = some (.int .i64 t.fr) := hM.top 5 (by decide)
      have hfr := fr_lt hBld.inv
      have hcap : (ts.length : Int) ≤ (c4 : Int) := by have := own_cap hM.tasks; simp at this; omega
      have HB : Hid (Bld Xs B ns G (t :: ts)) := hBld
      have HM : Hid (Mem w wr u3 (.slice (some ⟨g4, 0, none⟩) (t :: ts).length c4) ns (t :: ts)) := hM
      clear hBld hM
      go_upto_if 35 with fail
      obtain ⟨M1, X1⟩ := HM.out.pop.toBox t #[.int .i64 t.lo, .int .i64 t.hi, .int .i64 t.p, .bool t.chain, .bool t.els, .int .i64 t.fr] rfl
      refine segA b off cap Xs w wr u3 g4 c4 B t ts ns _ _ _ _ _ _ _ _ _ _ _ _ _ _ _ _ _ _ _ _ _ _ _ _ _ _ _ _ _ _ _ _ _ _ _ _ _ _ _ _ _ _ _ _ _ _ _ _ _ _ _ _ _ _ _ _ _ _ _ _ _ _ _ _ _ _ _ _ _ _ _ _ _ _ _ _ _ _ _ _ _ _ _ _ _ _ _ _ _ _ _ _ _ _ _ _ _ _ _ _ _ _ _ _ _ _ _ _ _ _ _ _ _ _ _ _ _ _ _ _ _ _ _ _ _ _ _ _ _ _ _ _ _ _ _ _ _ _ _ _ _ _ _ _ _ _ _ _ _ _ _ _ _ _ _ _ _ _ _ _ _ _ _ _ _ _ _ _ _ _ _ _ _ _ _ _ _ _ _ _ _ _ _ hB hlens hfr M1 X1 ?_
      rintro n35 n36 n37 n38 n39 n40 n41 n42 wc ⟨HM2, X2⟩
      clear k0 k1 k2 k3 k4 k5 hfr M1 X1 HM
      generalize wr.heap.size = g5 at X2 ⊢
      have e4 := X2.els
      go_upto_if 44 with fail
      refine segB b off cap Xs w wc u3 g4 c4 g5 t ts B gk ns G _ _ _ _ _ _ _ _ _ _ _ _ _ _ _ _ _ _ _ _ _ _ _ _ _ _ _ _ _ _ _ _ _ _ _ _ _ _ _ _ _ _ _ _ _ _ _ _ _ _ _ _ _ _ _ _ _ _ _ _ _ _ _ _ _ _ _ _ _ _ _ _ _ _ _ _ _ _ _ _ _ _ _ _ _ _ _ _ _ _ _ _ _ _ _ _ _ _ _ _ _ _ _ _ _ _ _ _ _ _ _ _ _ _ _ _ _ _ _ _ _ _ _ _ _ _ _ _ _ _ _ _ _ _ _ _ _ _ _ _ _ _ _ _ _ _ _ _ _ _ _ _ _ _ _ _ _ _ _ _ _ _ _ _ _ _ _ _ _ _ _ _ _ _ _ _ _ _ _ _ _ _ _ hB hlens hm HB HM2 X2 ?_
      clear HB HM2 X2 e4
      rintro v3 n44 n45 n46 n47 n48 n49 wc hcut
      have cc := (mid_box hcut.out).chain
      go_upto_if 52 with fail
      refine segC b off cap Xs w wc v3 g4 c4 g5 t ts B gk _ _ _ _ _ _ _ _ _ _ _ _ _ _ _ _ _ _ _ _ _ _ _ _ _ _ _ _ _ _ _ _ _ _ _ _ _ _ _ _ _ _ _ _ _ _ _ _ _ _ _ _ _ _ _ _ _ _ _ _ _ _ _ _ _ _ _ _ _ _ _ _ _ _ _ _ _ _ _ _ _ _ _ _ _ _ _ _ _ _ _ _ _ _ _ _ _ _ _ _ _ _ _ _ _ _ _ _ _ _ _ _ _ _ _ _ _ _ _ _ _ _ _ _ _ _ _ _ _ _ _ _ _ _ _ _ _ _ _ _ _ _ _ _ _ _ _ _ _ _ _ _ _ _ _ _ _ _ _ _ _ _ _ _ _ _ _ _ _ _ _ _ _ _ _ _ _ _ _ _ _ _ _ hB hS hK h0 hn hs htl hcut ?_ ?_
      · clear hcut cc
        rintro v3 _ n6 n7 n52 n53 n54 n55 n56 n57 n58 n59 n60 n61 n62 n63 n64 n65 n66 n67 n68 n69 n70 n71 n72 n73 n74 n75 n76 n77 n78 n79 n80 n81 n82 n83 n84 n85 n86 n87 n88 n89 n90 n91 n92 n93 n94 n95 wc ⟨rfl, hcut⟩
        obtain ⟨ns2, G2, fr2, hB2, hm2, M3, X3⟩ := hcut.out
        have HB2 : Hid (Bld Xs B ns2 G2 (⟨t.lo, t.hi, t.p, t.chain, false, fr2⟩ :: ts)) := hB2
        have L2 := top_lvl hB2
        change Lvl Xs ⟨t.lo, t.hi, t.p⟩ at L2
        have hlo := L2.ne
        have hhi := L2.le
        change t.lo < t.hi at hlo
        change t.hi ≤ Xs.length at hhi
        have hl2 := hB2.lens
        rw [List.length_cons] at hl2
        have hsz : ∀ i, t.lo ≤ i → i < t.hi → t.p ≤ (key Xs i).size := fun i a b => (L2.size i a b).1
        have zq := hs _ (key_mem Xs t.lo (by omega))
        have pq := hsz t.lo (by omega) (by omega)
        have HM3 : Hid (Mem w wc v3 (.slice (some ⟨g4, 0, none⟩) ts.length c4) (patch ns2 fr2) ts) := M3
        have HX3 : Hid (Box w wc v3 (.slice (some ⟨g4, 0, none⟩) ts.length c4) g5 t) := X3
        clear hB2 M3 X3 L2 hcut
        go_upto_region 17 with fail
        refine seg17 b off cap Xs w wc v3 g4 c4 g5 t ts ns2 fr2 _ _ _ _ _ _ _ _ _ _ _ _ _ _ _ _ _ _ _ _ _ _ _ _ _ _ _ _ _ _ _ _ _ _ _ _ _ _ _ _ _ _ _ _ _ _ _ _ _ _ _ _ _ _ _ _ _ _ _ _ _ _ _ _ _ _ _ _ _ _ _ _ _ _ _ _ _ _ _ _ _ _ _ _ _ _ _ _ _ _ _ _ _ _ _ _ _ _ _ _ _ _ _ _ _ _ _ _ _ _ _ _ _ _ _ _ _ _ _ _ _ _ _ _ _ _ _ _ _ _ _ _ _ _ _ _ _ _ _ _ _ _ _ _ _ _ _ _ _ _ _ _ _ _ _ _ _ _ _ _ _ _ _ _ _ _ _ _ _ _ _ _ _ _ _ _ _ _ _ _ _ _ _ _ hK h0 hn hs hlo hhi hsz HM3 HX3 ?_
        clear HM3 HX3
        rintro n96 n97 n98 n99 n100 n101 n102 n103 s8 wc hM8
        obtain ⟨M7, X7, g8, rfl, hg8, n3', n4', v0, v1⟩ := hM8
        have q0 := X7.lo
        have H8 : Hid (M8 Xs w v3 (.slice (some ⟨g4, 0, none⟩) ts.length c4) (patch ns2 fr2) ts g5 t (.pointer (some ⟨g8, 0, none⟩)) wc) := ⟨M7, X7, g8, rfl, hg8, n3', n4', v0, v1⟩
        clear M7 X7 hg8 n3' n4' v0 v1
        go_wp2_with fail
        refine segL b off cap Xs w wc v3 g4 c4 g5 t ts g8 ns2 fr2 _ _ _ _ _ _ _ _ _ _ _ _ _ _ _ _ _ _ _ _ _ _ _ _ _ _ _ _ _ _ _ _ _ _ _ _ _ _ _ _ _ _ _ _ _ _ _ _ _ _ _ _ _ _ _ _ _ _ _ _ _ _ _ _ _ _ _ _ _ _ _ _ _ _ _ _ _ _ _ _ _ _ _ _ _ _ _ _ _ _ _ _ _ _ _ _ _ _ _ _ _ _ _ _ _ _ _ _ _ _ _ _ _ _ _ _ _ _ _ _ _ _ _ _ _ _ _ _ _ _ _ _ _ _ _ _ _ _ _ _ _ _ _ _ _ _ _ _ _ _ _ _ _ _ _ _ _ _ _ _ _ _ _ _ _ _ _ _ _ _ _ _ _ _ _ _ _ _ _ _ _ _ hK h0 hn hs hlo hhi hsz H8 ?_
        clear H8 q0
        rintro s9 n107 n108 n109 n110 n111 n112 n113 n114 n115 n116 n117 n118 n119 n120 n121 n122 n123 wc ⟨m, rfl, hmh, hlm, hG, K9⟩
        go_upto_region 21 with fail
        refine seg21 b off cap Xs w wc v3 g4 c4 g5 t ts g8 m ns2 fr2 _ _ _ _ _ _ _ _ _ _ _ _ _ _ _ _ _ _ _ _ _ _ _ _ _ _ _ _ _ _ _ _ _ _ _ _ _ _ _ _ _ _ _ _ _ _ _ _ _ _ _ _ _ _ _ _ _ _ _ _ _ _ _ _ _ _ _ _ _ _ _ _ _ _ _ _ _ _ _ _ _ _ _ _ _ _ _ _ _ _ _ _ _ _ _ _ _ _ _ _ _ _ _ _ _ _ _ _ _ _ _ _ _ _ _ _ _ _ _ _ _ _ _ _ _ _ _ _ _ _ _ _ _ _ _ _ _ _ _ _ _ _ _ _ _ _ _ _ _ _ _ _ _ _ _ _ _ _ _ _ _ _ _ _ _ _ _ _ _ _ _ _ _ _ _ _ _ _ _ _ _ _ hK h0 hn hs hlo hhi hsz K9 ?_
        clear K9
        rintro s10 n124 n125 n126 n127 n128 n129 n130 n131 n132 n133 n134 n135 wc ⟨rfl, K10⟩
        obtain ⟨M9, X9, g8', e8, hg8, n3', n4', v0, v1⟩ := K10.out
        cases e8
        have q0 := X9.lo
        clear M9 X9 hg8 n3' n4' v0 v1
        go_upto_if 138 with fail
        go_cut [10, 11] (fun s10 s11 wx => s10 = .bool (owns Xs ⟨t.lo, t.hi, t.p⟩) ∧ s11 = .int .i64 (rest Xs ⟨t.lo, t.hi, t.p⟩) ∧ Hid (M8 Xs w v3 (.slice (some ⟨g4, 0, none⟩) ts.length c4) (patch ns2 fr2) ts g5 t (.pointer (some ⟨g8, 0, none⟩)) wx))
        case first =>
          by_cases ho : owns Xs ⟨t.lo, t.hi, t.p⟩ = true
          · have Ho : Hid (rest Xs ⟨t.lo, t.hi, t.p⟩ = t.lo + 1) := by show rest _ _ = _; unfold rest; rw [if_pos ho]
            have HO : Hid (owns Xs ⟨t.lo, t.hi, t.p⟩ = true) := ho
            rw [ho]
            clear ho
            go_wp2_with fail
            go_meet
            exact ⟨by rw [HO.out], i64_eq (by rw [Ho.out]; omega), K10⟩
          · have ho' : owns Xs ⟨t.lo, t.hi, t.p⟩ = false := by simpa using ho
            have Ho : Hid (rest Xs ⟨t.lo, t.hi, t.p⟩ = t.lo) := by show rest _ _ = _; unfold rest; rw [if_neg ho]
            have HO : Hid (owns Xs ⟨t.lo, t.hi, t.p⟩ = false) := ho'
            rw [ho']
            clear ho ho'
            go_wp2_with fail
            go_meet
            exact ⟨by rw [HO.out], i64_eq (by rw [Ho.out]), K10⟩
        case rest =>
          obtain ⟨rfl, rfl, K11⟩ := hcut
          clear K10 q0
          have hrl := rest_le Xs ⟨t.lo, t.hi, t.p⟩
          simp only at hrl
          generalize hrr : rest Xs ⟨t.lo, t.hi, t.p⟩ = rr at hrl ⊢
          generalize hoo : owns Xs ⟨t.lo, t.hi, t.p⟩ = oo
          have HRR : Hid (rest Xs ⟨t.lo, t.hi, t.p⟩ = rr) := hrr
          have HOO : Hid (owns Xs ⟨t.lo, t.hi, t.p⟩ = oo) := hoo
          clear hrr hoo
          go_upto_region 25 with fail
          refine seg25 b off cap Xs w wc v3 g4 c4 g5 t ts g8 m ns2 fr2 B rr oo _ _ _ _ _ _ _ _ _ _ _ _ _ _ _ _ _ _ _ _ _ _ _ _ _ _ _ _ _ _ _ _ _ _ _ _ _ _ _ _ _ _ _ _ _ _ _ _ _ _ _ _ _ _ _ _ _ _ _ _ _ _ _ _ _ _ _ _ _ _ _ _ _ _ _ _ _ _ _ _ _ _ _ _ _ _ _ _ _ _ _ _ _ _ _ _ _ _ _ _ _ _ _ _ _ _ _ _ _ _ _ _ _ _ _ _ _ _ _ _ _ _ _ _ _ _ _ _ _ _ _ _ _ _ _ _ _ _ _ _ _ _ _ _ _ _ _ _ _ _ _ _ _ _ _ _ _ _ _ _ _ _ _ _ _ _ _ _ _ _ _ _ _ _ _ _ _ _ _ _ hB hl2 (by omega) (by omega) (by omega) K11 ?_
          clear K11
          rintro s3 n141 n142 n143 n144 n145 n146 n147 n148 n149 n150 n151 n152 n153 n154 n155 n156 wc ⟨g3, cap3, rfl, HM10, HX10⟩
          have r1 := HX10.out.hi
          go_upto_if 160 with fail
          refine seg160 b off cap Xs w wc g4 c4 g5 g3 cap3 t ts m ns2 fr2 B rr oo _ _ _ _ _ _ _ _ _ _ _ _ _ _ _ _ _ _ _ _ _ _ _ _ _ _ _ _ _ _ _ _ _ _ _ _ _ _ _ _ _ _ _ _ _ _ _ _ _ _ _ _ _ _ _ _ _ _ _ _ _ _ _ _ _ _ _ _ _ _ _ _ _ _ _ _ _ _ _ _ _ _ _ _ _ _ _ _ _ _ _ _ _ _ _ _ _ _ _ _ _ _ _ _ _ _ _ _ _ _ _ _ _ _ _ _ _ _ _ _ _ _ _ _ _ _ _ _ _ _ _ _ _ _ _ _ _ _ _ _ _ _ _ _ _ _ _ _ _ _ _ _ _ _ _ _ _ _ _ _ _ _ _ _ _ _ _ _ _ _ _ _ _ _ _ _ _ _ _ _ _ _ hB hl2 (by omega) (by omega) HM10 HX10 ?_
          clear HM10 HX10 r1
          rintro s4 n160 n161 n162 n163 n164 n165 n166 n167 n168 n169 n170 n171 n172 wc ⟨HM11, HX11⟩
          have r2 := HX11.out.p
          have hul : (tkUp ⟨t.lo, t.hi, t.p, t.chain, false, fr2⟩ m ns2.length ++ ts).length ≤ ts.length + 1 := by unfold tkUp; split <;> simp
          have hp20 : t.p ≤ 1048576 := by omega
          have HQ : Hid (_ ∧ _) := bld_eq hS HB2.out rfl m hG.out
          have HND : Hid ((⟨1, (m : Int) == (t.hi : Int), kv Xs t.lo t.p, (wb (key Xs t.lo) t.p).length, oo, decide (rr < m), 0, t.lo⟩ : Nd) = ndEq Xs ⟨t.lo, t.hi, t.p⟩ m) := nd_is HRR.out HOO.out
          by_cases h1 : rr < m
          · have h1' : (rr : Int) < (m : Int) := by omega
            obtain ⟨L11, hL11⟩ : ∃ L, L = tkUp ⟨t.lo, t.hi, t.p, t.chain, false, fr2⟩ m ns2.length ++ ts := ⟨_, rfl⟩
            rw [← hL11] at HM11 hul
            have HL11 : Hid (L11 = tkUp ⟨t.lo, t.hi, t.p, t.chain, false, fr2⟩ m ns2.length ++ ts) := hL11
            clear hL11
            go_wp2_with (at_builtin; refine wpList_append_own_at _ rfl (.tmp 176) (.tmp 183) 65 rfl w.heap.size 64 ti64 (.agg (tkCells ⟨0, 0, 0, false, false, 0⟩).toArray) 6 40 Try.underlying65 hi64 hz64 hs64 hb64 rfl (by decide) _ _ _ rfl (HM11.out.tasks.alloc _) ⟨wc.heap.size, 0, none⟩ 1 1 (tkCells ⟨rr, m, t.p + 8, false, false, -1⟩) rfl rfl ?d1 ?d2 ?d3 ?d4 ?d5 ?_)
            case d1 => exact fun j u h => h
            case d2 => exact tk_one _
            case d3 => unfold maxLen; omega
            try case d4 => omega
            case d5 => have hz := HM11.out.below.size; omega
            intro v5 w5 hown5 hgrow5 _ hloc5
            have HR : Hid (Mem w w5 (.slice (some ⟨g3, 0, none⟩) (ns2.length + 1) cap3) v5 (patch ns2 fr2 ++ [⟨1, (m : Int) == (t.hi : Int), kv Xs t.lo t.p, (wb (key Xs t.lo) t.p).length, oo, decide (rr < m), 0, t.lo⟩]) ([⟨rr, m, t.p + 8, false, false, -1⟩] ++ L11)) := HM11.out.pushTasks [⟨rr, m, t.p + 8, false, false, -1⟩] (by simpa using hown5) hgrow5 hloc5
            clear hown5 hgrow5 hloc5
            go_wp2
            go_roundg (meas Xs (⟨t.lo, t.hi, t.p, t.chain, false, fr2⟩ :: ts))
            case measure => exact hm2
            case rel => exact ⟨_, _, _, HQ.out.1, HQ.out.2, fin_in h1 HRR.out HND.out HL11.out HR.out⟩
          · have h1' : ¬ (rr : Int) < (m : Int) := by omega
            go_wp2
            go_roundg (meas Xs (⟨t.lo, t.hi, t.p, t.chain, false, fr2⟩ :: ts))
            case measure => exact hm2
            case rel => exact ⟨_, _, _, HQ.out.1, HQ.out.2, fin_out h1 HRR.out HND.out HM11.out⟩
      · rintro v3 v4 n6 n7 n52 n53 n54 n55 n56 n57 n58 n59 n60 n61 n62 n63 n64 n65 n66 n67 n68 n69 n70 n71 n72 n73 n74 n75 n76 n77 n78 n79 n80 n81 n82 n83 n84 n85 n86 n87 n88 n89 n90 n91 n92 n93 n94 n95 wx ⟨ns', G', ts', k', hb', hm', hk', hM'⟩
        go_wp2_with fail
        go_roundg k'
        case measure => exact hk'
        case rel => exact ⟨ns', G', ts', hb', hm', hM'⟩
end Go.Proofs.Qxb6001311a
