/-
  The law's own walk: the code behind block 8.
-/
import Derived.Test.Qxb6618441aPartD
namespace Go.Proofs.Qxb6618441a
open Go.RowKit Mem
set_option linter.unusedVariables false

set_option maxRecDepth 100000 in
set_option maxHeartbeats 100000000 in
theorem partC (a r nw ia : Option Addr) (ca cr cn ci : Nat) (cs : List Cmd) (run : List Run) (nows ids : List Int) (w : World) (hC : RC w a cs.length cs) (hR : RR w r run.length run) (hN : RI w nw nows.length nows) (hI : RI w ia ids.length ids)
    (h1 : cs.length ≤ 4096) (h2 : run.length ≤ 4096) (h3 : nows.length ≤ 4096) (h4 : ids.length ≤ 4096) (hwr : ∀ i, W64 (run.getD i (0, 0)).1 ∧ W64 (run.getD i (0, 0)).2) (hwi : ∀ i, W64 (ids.getD i 0))
    (HPR : Hid (∀ i, i < run.length → eff run i = true → 0 ≤ (run.getD i (0, 0)).2 ∧ (run.getD i (0, 0)).2 < cs.length)) (N : Nat) (hN1 : N ≤ nows.length) (hN2 : N ≤ ids.length) (gc : Nat) (hwgc : w.heap.size ≤ gc)
    (gm : Nat) (hgcm : gc ≠ gm) (hwgm : w.heap.size ≤ gm) (gt : Nat) (e0 : (cs.map Cmd.e).length = cs.length) (w8 : World) (ks8 : List Int) (hb8 : Below w.heap.size w w8) (htr8 : Trace w8 gt gc gm run.length cs (ends (cs.map Cmd.e) run nows ids N) (now run ids N) ks8)
    (u4 u5 u6 u7 u8 u9 u10 u11 u12 u15 u17 u19 u20 u21 u22 u23 u24 u25 u26 u27 u28 u29 u30 u31 u32 u33 u34 u35 u36 u37 u38 u39 u40 u41 u42 u43 u44 u45 u46 u47 u48 u49 u50 u51 u52 u53 u54 u55 u56 u57 u58 u59 u60 u61 u62 u63 u64 u65 u66 u67 u68 u69 u70 u71 u72 u73 u74 u75 u76 u77 u78 u79 u80 u81 u82 u83 u84 u85 u86 u87 u88 u89 u90 u91 u92 u93 u94 u95 u96 u97 u98 u99 u100 u101 u102 u103 u104 u105 u106 u107 u108 u109 u110 u111 u112 u113 u114 u115 u116 u117 u118 u119 u120 u121 u122 u123 u124 u125 u126 u127 u128 u129 u130 u131 u132 u133 u134 u135 u136 u137 u138 u139 u140 u141 u142 u143 u144 u145 u146 u147 u148 u149 u150 u151 u152 u153 u154 u155 u156 u157 u158 u159 u160 u161 u162 u163 u164 u165 u166 u167 u168 u169 u170 u171 u172 u173 u174 u175 u176 u177 u178 u179 u180 u181 u182 u183 u184 u185 u186 u187 u188 u189 u190 u191 u192 u193 u194 u195 u196 u197 u198 u199 u200 u201 u202 u203 u204 u205 u206 u207 u208 u209 u210 u211 u212 u213 u214 u215 u216 u217 u218 u219 u220 u221 u222 u223 u224 u225 u226 u227 u228 u229 u230 u231 u232 u233 u234 u235 u236 u237 u238 u239 u240 u241 u242 u243 u244 u245 u246 u247 u248 u249 u250 u251 u252 u253 u254 u255 u256 u257 u258 u259 u260 u261 u262 u263 u264 u265 u266 u267 u268 u269 u270 u271 u272 u273 u274 u275 u276 u277 u278 u279 u280 u281 u282 u283 u284 u285 u286 u287 u288 u289 u290 u291 u292 u293 u294 u295 u296 u297 u298 u299 u300 u301 u302 u303 u304 u305 u306 u307 u308 u309 u310 u311 u312 u313 u314 u315 u316 u317 u318 u319 u320 u321 u322 u323 u324 u325 u326 u327 u328 u329 u330 u331 u332 u333 u334 u335 u336 u337 u338 u339 u340 u341 u342 u343 u344 u345 u346 u347 u348 u349 u350 u351 u352 u353 u354 u355 u356 u357 : Value) :
    Code.wp Try.prog (restOf 8) (bodyPost Try.prog Try.f3 fun e w' => e = .returned (.bool true) ∧ Below w.heap.size w w') ⟨#[.slice a cs.length ca, .slice r run.length cr, .slice nw nows.length cn, .slice ia ids.length ci, u4, u5, u6, u7, u8, u9, u10, u11, u12, .int .i64 (N : Int), .slice (some ⟨gc, 0, none⟩) cs.length cs.length, u15, .map (some gm), u17, .pointer (some ⟨gt, 0, none⟩), u19, u20, u21, u22, u23, u24, u25, u26, u27, u28, u29, u30, u31, u32, u33, u34, u35, u36, u37, u38, u39, u40, u41, u42, u43, u44, u45, u46, u47, u48, u49, u50, u51, u52, u53, u54, u55, u56, u57, u58, u59, u60, u61, u62, u63, u64, u65, u66, u67, u68, u69, u70, u71, u72, u73, u74, u75, u76, u77, u78, u79, u80, u81, u82, u83, u84, u85, u86, u87, u88, u89, u90, u91, u92, u93, u94, u95, u96, u97, u98, u99, u100, u101, u102, u103, u104, u105, u106, u107, u108, u109, u110, u111, u112, u113, u114, u115, u116, u117, u118, u119, u120, u121, u122, u123, u124, u125, u126, u127, u128, u129, u130, u131, u132, u133, u134, u135, u136, u137, u138, u139, u140, u141, u142, u143, u144, u145, u146, u147, u148, u149, u150, u151, u152, u153, u154, u155, u156, u157, u158, u159, u160, u161, u162, u163, u164, u165, u166, u167, u168, u169, u170, u171, u172, u173, u174, u175, u176, u177, u178, u179, u180, u181, u182, u183, u184, u185, u186, u187, u188, u189, u190, u191, u192, u193, u194, u195, u196, u197, u198, u199, u200, u201, u202, u203, u204, u205, u206, u207, u208, u209, u210, u211, u212, u213, u214, u215, u216, u217, u218, u219, u220, u221, u222, u223, u224, u225, u226, u227, u228, u229, u230, u231, u232, u233, u234, u235, u236, u237, u238, u239, u240, u241, u242, u243, u244, u245, u246, u247, u248, u249, u250, u251, u252, u253, u254, u255, u256, u257, u258, u259, u260, u261, u262, u263, u264, u265, u266, u267, u268, u269, u270, u271, u272, u273, u274, u275, u276, u277, u278, u279, u280, u281, u282, u283, u284, u285, u286, u287, u288, u289, u290, u291, u292, u293, u294, u295, u296, u297, u298, u299, u300, u301, u302, u303, u304, u305, u306, u307, u308, u309, u310, u311, u312, u313, u314, u315, u316, u317, u318, u319, u320, u321, u322, u323, u324, u325, u326, u327, u328, u329, u330, u331, u332, u333, u334, u335, u336, u337, u338, u339, u340, u341, u342, u343, u344, u345, u346, u347, u348, u349, u350, u351, u352, u353, u354, u355, u356, u357], []⟩ w8 := by
  conv => arg 2; whnf
  have m1 : cs.length ≤ maxLen := by unfold maxLen; omega
  have m2 : run.length ≤ maxLen := by unfold maxLen; omega
  have m3 : nows.length ≤ maxLen := by unfold maxLen; omega
  have m4 : ids.length ≤ maxLen := by unfold maxLen; omega
  -- want: the ends as they came
  go_upto_block 10 with (at_make; refine wpList_make_abs rfl _ _ 24 rfl 2 (.int .i64 0) 8 Try.underlying24 Try.info2 rfl .i64 .i64 cs.length _ _ rfl rfl rfl rfl (by omega) (by omega) ?_; intro gw w9 hgw hgwl hwant hb9)
  have htr9 := htr8.below hb9
  have hb9' : Below w.heap.size w w9 := hb8.trans (hb9.mono hb8.size)
  have hs8 := hb8.size
  have hwgw : w.heap.size ≤ gw := by omega
  have ngt : gt < gw := by have := htr8.box.lt; omega
  have ngc : gc < gw := by obtain ⟨_, q, _⟩ := htr8.row; have := q.lt; omega
  have ngm : gm < gw := by have := htr8.map.lt; omega
  clear htr8 hb8 hb9 hs8
  go_cut [] (fun wx => Arr wx gw 2 (L64 (cs.map Cmd.e)) ∧ Below gw w9 wx)
  case first =>
    go_wp2
    go_loopw [21] (fun j wr => ∃ (k : Nat) (vs : List Value), k ≤ cs.length ∧ j = .int .i64 k ∧ Arr wr gw 2 vs ∧ vs.length = cs.length ∧ Hid (∀ i, i < k → vs[i]? = some (.int .i64 ((cs.map Cmd.e).getD i 0))) ∧ Below gw w9 wr) (fun j _ => cs.length - (intOf j).toNat)
    case atStart => exact ⟨0, _, by omega, rfl, hwant, by simp, fun i hi => absurd hi (by omega), Below.refl _ _⟩
    case round =>
      clear hwant
      obtain ⟨k, vs, hk, rfl, hA, hvl, HP, hb⟩ := hrel
      by_cases hlt : k < cs.length
      · obtain ⟨b', off, rfl, c0, c1, c2, c3, c4⟩ := (hC.below (hb9'.trans (hb.mono hwgw))).cell hlt
        rw [← map_e cs k hlt] at c4
        obtain ⟨x, hx⟩ : ∃ x, x = (cs.map Cmd.e).getD k 0 := ⟨_, rfl⟩
        rw [← hx] at c4
        have HX : Hid (x = (cs.map Cmd.e).getD k 0) := hx
        have hcg : wr.cell? ⟨gw, k, none⟩ = some (vs[k]'(by omega)) := by rw [hA.cell]; exact List.getElem?_eq_getElem (by omega)
        have hfg := hA.frozen k
        clear hx c0 c1 c2 c3 hC hR hN hI hwr hwi
        go_wp2
        go_roundw
        case rel =>
          refine ⟨k + 1, _, by omega, by go_num, hA.set k _, by simpa using hvl, fun i hi => ?_, hb.setCell (by simp) _⟩
          by_cases e : i = k
          · subst e; rw [List.getElem?_set_self (by omega), HX.out]
          · rw [List.getElem?_set_ne (by omega)]; exact HP.out i (by omega)
        case measure => simp [intOf]; omega
      · go_wp2
        go_meet
        case rel =>
          obtain rfl : vs = L64 (cs.map Cmd.e) := L64_full (by simpa using hvl) (fun i hi => HP.out i (by simp at hi; omega))
          exact ⟨hA, hb⟩
  obtain ⟨w10, rfl⟩ : ∃ w10, w10 = wc := ⟨_, rfl⟩
  obtain ⟨hwant10, hb10⟩ := hcut
  have htr10 := htr9.belowB hb10 ngt ngc ngm
  have hb10' : Below w.heap.size w w10 := hb9'.trans (hb10.mono hwgw)
  clear hwant htr9 hb10 hb9'
  -- loops 7 and 8: the latest first report
  go_upto_block 12 with fail
  go_cut [] (fun wx => Arr wx gw 2 (L64 (ends (cs.map Cmd.e) run nows ids N)) ∧ Below gw w10 wx)
  case first =>
    go_wp2
    go_loopw [22, 23, 24, 25, 26] (fun j _ _ _ _ wr => ∃ (k : Nat), k ≤ N ∧ j = .int .i64 k ∧ Arr wr gw 2 (L64 (ends (cs.map Cmd.e) run nows ids k)) ∧ Below gw w10 wr) (fun j _ _ _ _ _ => N - (intOf j).toNat)
    case atStart => exact ⟨0, by omega, rfl, hwant10, Below.refl _ _⟩
    case round =>
      clear hwant10
      obtain ⟨k, hk, rfl, hA, hb⟩ := hrel
      have hbw : Below w.heap.size w wr := hb10'.trans (hb.mono hwgw)
      obtain ⟨wo, rfl⟩ : ∃ wo, wo = wr := ⟨_, rfl⟩
      by_cases hlt : k < N
      · obtain ⟨b', off, rfl, c1⟩ := (hN.below hbw).cell (show k < nows.length by omega)
        obtain ⟨b'', off', hia, hall⟩ := (hI.below hbw).2 (show 0 < ids.length by omega)
        subst hia
        have c2 := hall k (by omega)
        obtain ⟨x, hx⟩ : ∃ x, x = nows.getD k 0 := ⟨_, rfl⟩
        obtain ⟨y, hy⟩ : ∃ y, y = ids.getD k 0 := ⟨_, rfl⟩
        rw [← hx] at c1
        rw [← hy] at c2
        have HX : Hid (x = nows.getD k 0) := hx
        have HY : Hid (y = ids.getD k 0) := hy
        have hkn : k < nows.length := by omega
        have hki : k < ids.length := by omega
        have HALL : Hid (∀ i, i < ids.length → wo.cell? ⟨b'', off' + i, none⟩ = some (.int .i64 (ids.getD i 0))) := hall
        clear hall
        cases hcl : called ids k y with
        | true =>
          have HCL : Hid (called ids k y = true) := hcl
          have HE : Hid (ends (cs.map Cmd.e) run nows ids (k + 1) = ends (cs.map Cmd.e) run nows ids k) := by
            show ends _ _ _ _ (k + 1) = _
            rw [ends, ← hy, hcl, if_pos rfl]
          clear hcl hx hy hC hN hI hwr hwi
          go_wp2
          go_loopw [23, 24] (fun f j wr => ∃ (i : Nat), i ≤ k ∧ f = .bool true ∧ j = .int .i64 i ∧ Hid (∀ t, t < i → ids.getD t 0 ≠ y) ∧ Hid (∃ n, wr = wo.drewN n)) (fun _ j _ => k - (intOf j).toNat)
          case atStart => exact ⟨0, by omega, rfl, rfl, fun t ht => absurd ht (by omega), 0, rfl⟩
          case round =>
            obtain ⟨i, hi, rfl, rfl, HT, hn⟩ := hrel
            have hAq : Arr wr gw 2 (L64 (ends (cs.map Cmd.e) run nows ids k)) := by obtain ⟨n, rfl⟩ := hn.out; exact hA
            have hbq : Below gw w10 wr := by obtain ⟨n, rfl⟩ := hn.out; exact below_drewN hb n
            have c2q : wr.cell? ⟨b'', off' + k, none⟩ = some (.int .i64 y) := by obtain ⟨n, rfl⟩ := hn.out; exact c2
            by_cases hik : i < k
            · have c3 : wr.cell? ⟨b'', off' + i, none⟩ = some (.int .i64 (ids.getD i 0)) := by obtain ⟨n, rfl⟩ := hn.out; exact HALL.out i (by omega)
              obtain ⟨z, hz⟩ : ∃ z, z = ids.getD i 0 := ⟨_, rfl⟩
              rw [← hz] at c3
              have HZ : Hid (z = ids.getD i 0) := hz
              have hii : i < ids.length := by omega
              clear hz hA hb hbw c2
              go_wp2
              go_quiet (fail)
              go_wp2
              · have hzy : (z == y) = true := by assumption
                go_roundw
                case rel =>
                  refine ⟨k + 1, by omega, by go_num, ?_, below_drewN hbq _⟩
                  rw [HE.out]
                  exact hAq
                case measure => simp [intOf]; omega
              · have hzy : (z == y) = false := by assumption
                go_roundw
                case rel =>
                  refine ⟨i + 1, by omega, rfl, by go_num, fun t ht => ?_, by obtain ⟨n, rfl⟩ := hn.out; exact ⟨n + nq, World.drewN_drewN _ _ _⟩⟩
                  by_cases e : t = i
                  · subst e; rw [← HZ.out]; simpa using hzy
                  · exact HT.out t (by omega)
                case measure => simp [intOf]; omega
            · clear hA hb hbw c2
              exfalso
              have := called_not ids k y (fun t ht _ => HT.out t (by omega))
              rw [HCL.out] at this
              cases this
        | false =>
          have HCL : Hid (called ids k y = false) := hcl
          have HE : Hid (ends (cs.map Cmd.e) run nows ids (k + 1) = match lastPos run y with | none => ends (cs.map Cmd.e) run nows ids k | some p => (ends (cs.map Cmd.e) run nows ids k).set p.toNat x) := by
            show ends _ _ _ _ (k + 1) = _
            rw [ends, ← hy, hcl, ← hx]
            rfl
          clear hcl hx hy hC hN hI hwr hwi
          go_wp2
          go_loopw [23, 24] (fun f j wr => ∃ (i : Nat), i ≤ k ∧ f = .bool true ∧ j = .int .i64 i ∧ Hid (∀ t, t < i → ids.getD t 0 ≠ y) ∧ Hid (∃ n, wr = wo.drewN n)) (fun _ j _ => k - (intOf j).toNat)
          case atStart => exact ⟨0, by omega, rfl, rfl, fun t ht => absurd ht (by omega), 0, rfl⟩
          case round =>
            obtain ⟨i, hi, rfl, rfl, HT, hn⟩ := hrel
            have hAq : Arr wr gw 2 (L64 (ends (cs.map Cmd.e) run nows ids k)) := by obtain ⟨n, rfl⟩ := hn.out; exact hA
            have hbq : Below gw w10 wr := by obtain ⟨n, rfl⟩ := hn.out; exact below_drewN hb n
            have c2q : wr.cell? ⟨b'', off' + k, none⟩ = some (.int .i64 y) := by obtain ⟨n, rfl⟩ := hn.out; exact c2
            by_cases hik : i < k
            · have c3 : wr.cell? ⟨b'', off' + i, none⟩ = some (.int .i64 (ids.getD i 0)) := by obtain ⟨n, rfl⟩ := hn.out; exact HALL.out i (by omega)
              obtain ⟨z, hz⟩ : ∃ z, z = ids.getD i 0 := ⟨_, rfl⟩
              rw [← hz] at c3
              have HZ : Hid (z = ids.getD i 0) := hz
              have hii : i < ids.length := by omega
              clear hz hA hb hbw c2
              go_wp2
              go_quiet (fail)
              go_wp2
              · have hzy : (z == y) = true := by assumption
                exfalso
                have := called_of ids k i hik (by omega) y (by rw [← HZ.out]; simpa using hzy)
                rw [HCL.out] at this
                cases this
              · have hzy : (z == y) = false := by assumption
                go_roundw
                case rel =>
                  refine ⟨i + 1, by omega, rfl, by go_num, fun t ht => ?_, by obtain ⟨n, rfl⟩ := hn.out; exact ⟨n + nq, World.drewN_drewN _ _ _⟩⟩
                  by_cases e : t = i
                  · subst e; rw [← HZ.out]; simpa using hzy
                  · exact HT.out t (by omega)
                case measure => simp [intOf]; omega
            · clear hA hb hbw c2
              cases hlp : lastPos run y with
              | none =>
                have HL : Hid (lastPos run y = none) := hlp
                clear hlp
                go_wp2_with (go_at_call 8; refine (last_any r cr y run _ (hR.below (hb10'.trans (hbq.mono hwgw))) h2).mono ?_; rintro e w' ⟨rfl, rfl⟩; rw [HL.out])
                go_roundw
                case rel =>
                  refine ⟨k + 1, by omega, by go_num, ?_, hbq⟩
                  rw [HE.out, HL.out]
                  exact hAq
                case measure => simp [intOf]; omega
              | some p =>
                have hpp : 0 ≤ p ∧ p < cs.length := by
                  obtain ⟨t, i1, i2, i3, i4⟩ := last_eff run y p hlp
                  have := HPR.out t i1 i2
                  rw [i4] at this
                  exact this
                obtain ⟨pn, rfl⟩ : ∃ pn : Nat, p = pn := ⟨p.toNat, by omega⟩
                have hpn : pn < cs.length := by omega
                have HL : Hid (lastPos run y = some (pn : Int)) := hlp
                have c1q : wr.cell? ⟨b', off + k, none⟩ = some (.int .i64 x) := by obtain ⟨n, rfl⟩ := hn.out; exact c1
                have hlen : pn < (ends (cs.map Cmd.e) run nows ids k).length := by rw [ends_length, e0]; exact hpn
                have hcp : wr.cell? ⟨gw, pn, none⟩ = some (.int .i64 ((ends (cs.map Cmd.e) run nows ids k).getD pn 0)) := by rw [hAq.cell]; exact L64_get _ _ hlen
                have hfp := hAq.frozen pn
                have hRq := hR.below (hb10'.trans (hbq.mono hwgw))
                clear hlp c1
                go_wp2_with (go_at_call 8; refine (last_any r cr y run _ hRq h2).mono ?_; rintro e w' ⟨rfl, rfl⟩; rw [HL.out])
                go_roundw
                case rel =>
                  refine ⟨k + 1, by omega, by go_num, ?_, hbq.setCell (by simp) _⟩
                  rw [HE.out, HL.out]
                  have := hAq.set pn (.int .i64 x)
                  rw [L64_set] at this
                  exact this
                case measure => simp [intOf]; omega
      · go_wp2
        go_meet
        case rel =>
          obtain rfl : k = N := by omega
          exact ⟨hA, hb⟩
  obtain ⟨w11, rfl⟩ : ∃ w11, w11 = wc := ⟨_, rfl⟩
  obtain ⟨hwant11, hb11⟩ := hcut
  exact useK (by assumption) (partD a r nw ia ca cr cn ci cs run nows ids w hC hR hN hI h1 h2 h3 h4 hwr hwi HPR N hN1 hN2 gc hwgc gm hgcm hwgm gt e0 ks8 gw hwgw ngt ngc ngm w10 w11 hwant10 htr10 hb10' hwant11 hb11 _ _ _ _ _ _ _ _ _ _ _ _ _ _ _ _ _ _ _ _ _ _ _ _ _ _ _ _ _ _ _ _ _ _ _ _ _ _ _ _ _ _ _ _ _ _ _ _ _ _ _ _ _ _ _ _ _ _ _ _ _ _ _ _ _ _ _ _ _ _ _ _ _ _ _ _ _ _ _ _ _ _ _ _ _ _ _ _ _ _ _ _ _ _ _ _ _ _ _ _ _ _ _ _ _ _ _ _ _ _ _ _ _ _ _ _ _ _ _ _ _ _ _ _ _ _ _ _ _ _ _ _ _ _ _ _ _ _ _ _ _ _ _ _ _ _ _ _ _ _ _ _ _ _ _ _ _ _ _ _ _ _ _ _ _ _ _ _ _ _ _ _ _ _ _ _ _ _ _ _ _ _ _ _ _ _ _ _ _ _ _ _ _ _ _ _ _ _ _ _ _ _ _ _ _ _ _ _ _ _ _ _ _ _ _ _ _ _ _ _ _ _ _ _ _ _ _ _ _ _ _ _ _ _ _ _ _ _ _ _ _ _ _ _ _ _ _ _ _ _ _ _ _ _ _ _ _ _ _ _ _ _ _ _ _ _ _ _ _ _ _ _ _ _ _ _ _ _ _ _ _ _ _ _ _ _ _ _ _ _ _ _ _ _ _ _ _ _ _ _ _ _ _ _ _ _ _ _ _ _ _ _ _ _ _ _ _ _ _ _ _ _ _ _ _ _ _ _ _ _ _ _ _ _ _ _ _ _ _ _ _ _ _ _ _ _ _ _ _)
end Go.Proofs.Qxb6618441a
