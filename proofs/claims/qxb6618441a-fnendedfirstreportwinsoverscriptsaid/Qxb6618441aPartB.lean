/-
  The law's own walk: the code behind block 4.
-/
import Derived.Test.Qxb6618441aPartC
namespace Go.Proofs.Qxb6618441a
open Go.RowKit Mem
set_option linter.unusedVariables false

set_option maxRecDepth 100000 in
set_option maxHeartbeats 100000000 in
theorem partB (a r nw ia : Option Addr) (ca cr cn ci : Nat) (cs : List Cmd) (run : List Run) (nows ids : List Int) (w : World) (hC : RC w a cs.length cs) (hR : RR w r run.length run) (hN : RI w nw nows.length nows) (hI : RI w ia ids.length ids)
    (h1 : cs.length ≤ 4096) (h2 : run.length ≤ 4096) (h3 : nows.length ≤ 4096) (h4 : ids.length ≤ 4096) (hwr : ∀ i, W64 (run.getD i (0, 0)).1 ∧ W64 (run.getD i (0, 0)).2) (hwi : ∀ i, W64 (ids.getD i 0))
    (HPR : Hid (∀ i, i < run.length → eff run i = true → 0 ≤ (run.getD i (0, 0)).2 ∧ (run.getD i (0, 0)).2 < cs.length)) (N : Nat) (hN1 : N ≤ nows.length) (hN2 : N ≤ ids.length) (gc : Nat) (hwgc : w.heap.size ≤ gc)
    (w4 : World) (vs : List Value) (hb4 : Below w.heap.size w w4) (hrow4 : Arr w4 gc 33 vs) (hvs4 : IsRow vs cs (cs.map Cmd.e))
    (u4 u5 u6 u7 u8 u9 u10 u11 u12 u15 u16 u17 u18 u19 u20 u21 u22 u23 u24 u25 u26 u27 u28 u29 u30 u31 u32 u33 u34 u35 u36 u37 u38 u39 u40 u41 u42 u43 u44 u45 u46 u47 u48 u49 u50 u51 u52 u53 u54 u55 u56 u57 u58 u59 u60 u61 u62 u63 u64 u65 u66 u67 u68 u69 u70 u71 u72 u73 u74 u75 u76 u77 u78 u79 u80 u81 u82 u83 u84 u85 u86 u87 u88 u89 u90 u91 u92 u93 u94 u95 u96 u97 u98 u99 u100 u101 u102 u103 u104 u105 u106 u107 u108 u109 u110 u111 u112 u113 u114 u115 u116 u117 u118 u119 u120 u121 u122 u123 u124 u125 u126 u127 u128 u129 u130 u131 u132 u133 u134 u135 u136 u137 u138 u139 u140 u141 u142 u143 u144 u145 u146 u147 u148 u149 u150 u151 u152 u153 u154 u155 u156 u157 u158 u159 u160 u161 u162 u163 u164 u165 u166 u167 u168 u169 u170 u171 u172 u173 u174 u175 u176 u177 u178 u179 u180 u181 u182 u183 u184 u185 u186 u187 u188 u189 u190 u191 u192 u193 u194 u195 u196 u197 u198 u199 u200 u201 u202 u203 u204 u205 u206 u207 u208 u209 u210 u211 u212 u213 u214 u215 u216 u217 u218 u219 u220 u221 u222 u223 u224 u225 u226 u227 u228 u229 u230 u231 u232 u233 u234 u235 u236 u237 u238 u239 u240 u241 u242 u243 u244 u245 u246 u247 u248 u249 u250 u251 u252 u253 u254 u255 u256 u257 u258 u259 u260 u261 u262 u263 u264 u265 u266 u267 u268 u269 u270 u271 u272 u273 u274 u275 u276 u277 u278 u279 u280 u281 u282 u283 u284 u285 u286 u287 u288 u289 u290 u291 u292 u293 u294 u295 u296 u297 u298 u299 u300 u301 u302 u303 u304 u305 u306 u307 u308 u309 u310 u311 u312 u313 u314 u315 u316 u317 u318 u319 u320 u321 u322 u323 u324 u325 u326 u327 u328 u329 u330 u331 u332 u333 u334 u335 u336 u337 u338 u339 u340 u341 u342 u343 u344 u345 u346 u347 u348 u349 u350 u351 u352 u353 u354 u355 u356 u357 : Value) :
    Code.wp Try.prog (restOf 4) (bodyPost Try.prog Try.f3 fun e w' => e = .returned (.bool true) ∧ Below w.heap.size w w') ⟨#[.slice a cs.length ca, .slice r run.length cr, .slice nw nows.length cn, .slice ia ids.length ci, u4, u5, u6, u7, u8, u9, u10, u11, u12, .int .i64 (N : Int), .slice (some ⟨gc, 0, none⟩) cs.length cs.length, u15, u16, u17, u18, u19, u20, u21, u22, u23, u24, u25, u26, u27, u28, u29, u30, u31, u32, u33, u34, u35, u36, u37, u38, u39, u40, u41, u42, u43, u44, u45, u46, u47, u48, u49, u50, u51, u52, u53, u54, u55, u56, u57, u58, u59, u60, u61, u62, u63, u64, u65, u66, u67, u68, u69, u70, u71, u72, u73, u74, u75, u76, u77, u78, u79, u80, u81, u82, u83, u84, u85, u86, u87, u88, u89, u90, u91, u92, u93, u94, u95, u96, u97, u98, u99, u100, u101, u102, u103, u104, u105, u106, u107, u108, u109, u110, u111, u112, u113, u114, u115, u116, u117, u118, u119, u120, u121, u122, u123, u124, u125, u126, u127, u128, u129, u130, u131, u132, u133, u134, u135, u136, u137, u138, u139, u140, u141, u142, u143, u144, u145, u146, u147, u148, u149, u150, u151, u152, u153, u154, u155, u156, u157, u158, u159, u160, u161, u162, u163, u164, u165, u166, u167, u168, u169, u170, u171, u172, u173, u174, u175, u176, u177, u178, u179, u180, u181, u182, u183, u184, u185, u186, u187, u188, u189, u190, u191, u192, u193, u194, u195, u196, u197, u198, u199, u200, u201, u202, u203, u204, u205, u206, u207, u208, u209, u210, u211, u212, u213, u214, u215, u216, u217, u218, u219, u220, u221, u222, u223, u224, u225, u226, u227, u228, u229, u230, u231, u232, u233, u234, u235, u236, u237, u238, u239, u240, u241, u242, u243, u244, u245, u246, u247, u248, u249, u250, u251, u252, u253, u254, u255, u256, u257, u258, u259, u260, u261, u262, u263, u264, u265, u266, u267, u268, u269, u270, u271, u272, u273, u274, u275, u276, u277, u278, u279, u280, u281, u282, u283, u284, u285, u286, u287, u288, u289, u290, u291, u292, u293, u294, u295, u296, u297, u298, u299, u300, u301, u302, u303, u304, u305, u306, u307, u308, u309, u310, u311, u312, u313, u314, u315, u316, u317, u318, u319, u320, u321, u322, u323, u324, u325, u326, u327, u328, u329, u330, u331, u332, u333, u334, u335, u336, u337, u338, u339, u340, u341, u342, u343, u344, u345, u346, u347, u348, u349, u350, u351, u352, u353, u354, u355, u356, u357], []⟩ w4 := by
  conv => arg 2; whnf
  have m1 : cs.length ≤ maxLen := by unfold maxLen; omega
  have m2 : run.length ≤ maxLen := by unfold maxLen; omega
  have m3 : nows.length ≤ maxLen := by unfold maxLen; omega
  have m4 : ids.length ≤ maxLen := by unfold maxLen; omega
  -- the running map
  go_upto_block 6 with (refine wpList_makeMap rfl (.tmp 165) 34 3 3 rfl Try.underlying34 .i64 _ rfl ?_; intro gm w5 hgm hmap hb5)
  have hrow5 := hrow4.below hb5 hrow4.lt
  have hgcm : gc ≠ gm := by have := hrow4.lt; omega
  have hwgm : w.heap.size ≤ gm := Nat.le_trans hb4.size hgm
  have hb5' : Below w.heap.size w w5 := hb4.trans (hb5.mono hb4.size)
  clear hrow4 hb5 hb4
  go_cut [] (fun wx => (∃ ks, MapIs wx gm run.length (lastPos run) ks) ∧ Arr wx gc 33 vs ∧ Below w.heap.size w wx)
  case first =>
    go_wp2
    go_loopw [17] (fun j wr => ∃ (k : Nat) (ks : List Int), k ≤ run.length ∧ j = .int .i64 k ∧ MapIs wr gm k (lastPos (run.take k)) ks ∧ Arr wr gc 33 vs ∧ Below w.heap.size w wr) (fun j _ => run.length - (intOf j).toNat)
    case atStart => exact ⟨0, [], by omega, rfl, hmap, hrow5, hb5'⟩
    case round =>
      clear hmap hrow5 hb5'
      obtain ⟨k, ks, hk, rfl, hmap, hrow, hb⟩ := hrel
      by_cases hlt : k < run.length
      · obtain ⟨b', off, rfl, c1, c2⟩ := (hR.below hb).cell hlt
        obtain ⟨q, hq⟩ : ∃ q, q = run.getD k (0, 0) := ⟨_, rfl⟩
        rw [← hq] at c1 c2
        have HQ : Hid (q = run.getD k (0, 0)) := hq
        have hwq := hwr k
        rw [← hq] at hwq
        clear hq hC hR hN hI hwr hwi
        go_wp2
        go_still_tail 11, (by kernel_rfl)
        refine wpList_put rfl (.tmp 173) (.tmp 178) (.tmp 183) rfl gm k _ ks rfl hmap (by unfold maxLen; omega) q.1 q.2 rfl rfl hwq.1 hwq.2 ?_
        intro w6 hmap6 hg6x
        have hg6 : wr.drew.grownBy w6 (some gm) := hg6x
        clear hg6x
        go_wp2
        go_roundw
        case rel =>
          refine ⟨k + 1, _, by omega, by go_num, hmap6.congr (fun x => ?_), hrow.drew.grown hg6 (by simpa using hgcm), hb.drew.trans (below_of_grown hg6 hwgm hb.size)⟩
          rw [List.take_succ_eq_append_getElem hlt, lastPos_snoc]
          have : run[k] = q := by rw [HQ.out]; simp [List.getD_eq_getElem?_getD, hlt]
          rw [this]
        case measure => simp [intOf]; omega
      · go_wp2
        go_meet
        case rel =>
          obtain rfl : k = run.length := by omega
          rw [List.take_length] at hmap
          exact ⟨⟨ks, hmap⟩, hrow, hb⟩
  obtain ⟨w6, rfl⟩ : ∃ w6, w6 = wc := ⟨_, rfl⟩
  obtain ⟨⟨ks, hmap6⟩, hrow6, hb6⟩ := hcut
  clear hmap hrow5 hb5'
  -- the trace
  go_upto_block 8 with (go_at_call 6; refine (zznew_any gc gm cs.length _).mono ?_; rintro e w7 ⟨gt, rfl, hgt, hbox, hb7⟩)
  have hmlt := hmap6.lt
  have hrlt := hrow6.lt
  have e0 : (cs.map Cmd.e).length = cs.length := by simp
  have htr7 : Trace w7 gt gc gm run.length cs (ends (cs.map Cmd.e) run nows ids 0) (now run ids 0) ks :=
    ⟨hbox, ⟨vs, hrow6.below hb7 hrow6.lt, hvs4⟩, (hmap6.below hb7).congr (fun x => (now_zero run ids x).symm), by omega, by omega, hgcm⟩
  have hb7' : Below w.heap.size w w7 := hb6.trans (hb7.mono hb6.size)
  clear hbox hb7 hrow6 hmap6 hb6 hvs4 hmlt hrlt
  -- loop 5: the reports
  go_cut [] (fun wx => (∃ ks, Trace wx gt gc gm run.length cs (ends (cs.map Cmd.e) run nows ids N) (now run ids N) ks) ∧ Below w.heap.size w wx)
  case first =>
    go_wp2
    go_loopw [19] (fun j wr => ∃ (k : Nat) (ks : List Int), k ≤ N ∧ j = .int .i64 k ∧ Hid (Trace wr gt gc gm run.length cs (ends (cs.map Cmd.e) run nows ids k) (now run ids k) ks) ∧ Below w.heap.size w wr) (fun j _ => N - (intOf j).toNat)
    case atStart => exact ⟨0, ks, by omega, rfl, htr7, hb7'⟩
    case round =>
      clear htr7 hb7'
      obtain ⟨k, ks, hk, rfl, htr, hb⟩ := hrel
      by_cases hlt : k < N
      · obtain ⟨b', off, rfl, c1⟩ := (hN.below hb).cell (show k < nows.length by omega)
        obtain ⟨b'', off', rfl, c2⟩ := (hI.below hb).cell (show k < ids.length by omega)
        obtain ⟨x, hx⟩ : ∃ x, x = nows.getD k 0 := ⟨_, rfl⟩
        obtain ⟨y, hy⟩ : ∃ y, y = ids.getD k 0 := ⟨_, rfl⟩
        rw [← hx] at c1
        rw [← hy] at c2
        have HX : Hid (x = nows.getD k 0) := hx
        have HY : Hid (y = ids.getD k 0) := hy
        have hwy := hwi k
        rw [← hy] at hwy
        have hkn : k < nows.length := by omega
        have hki : k < ids.length := by omega
        have hf : Hid (∀ p, now run ids k y = some p → 0 ≤ p ∧ p < cs.length) := fun p hp => by
          unfold now at hp
          split at hp
          · cases hp
          · obtain ⟨i, i1, i2, i3, i4⟩ := last_eff run y p hp
            have := HPR.out i i1 i2
            rw [i4] at this
            exact this
        clear hx hy hC hR hN hI hwr hwi
        go_wp2
        go_still_tail 9, (by kernel_rfl)
        go_wp2_with fail
        refine (zzended_any gt gc gm run.length w.heap.size cs (ends (cs.map Cmd.e) run nows ids k) (now run ids k) ks x y _ (htr.out.below (Below.refl _ _).drew) (by rw [ends_length, e0]) hwy h1 hf.out hwgc hwgm).mono ?_
        rintro e w8 ⟨rfl, ⟨ks', htr8⟩, hb8⟩
        go_wp2
        go_roundw
        case rel =>
          refine ⟨k + 1, ks', by omega, by go_num, ?_, hb.drew.trans hb8⟩
          rw [ends_hit, ← HX.out, ← HY.out]
          obtain ⟨q1, q2, q3, q4, q5, q6⟩ := htr8
          refine ⟨q1, q2, q3.congr (fun z => ?_), q4, q5, q6⟩
          rw [HY.out]
          exact now_without run ids k hki z
        case measure => simp [intOf]; omega
      · go_wp2
        go_meet
        case rel =>
          obtain rfl : k = N := by omega
          exact ⟨⟨ks, htr.out⟩, hb⟩
  obtain ⟨w8, rfl⟩ : ∃ w8, w8 = wc := ⟨_, rfl⟩
  obtain ⟨⟨ks8, htr8⟩, hb8⟩ := hcut
  clear htr7 hb7'
  exact useK (by assumption) (partC a r nw ia ca cr cn ci cs run nows ids w hC hR hN hI h1 h2 h3 h4 hwr hwi HPR N hN1 hN2 gc hwgc gm hgcm hwgm gt e0 w8 ks8 hb8 htr8 _ _ _ _ _ _ _ _ _ _ _ _ _ _ _ _ _ _ _ _ _ _ _ _ _ _ _ _ _ _ _ _ _ _ _ _ _ _ _ _ _ _ _ _ _ _ _ _ _ _ _ _ _ _ _ _ _ _ _ _ _ _ _ _ _ _ _ _ _ _ _ _ _ _ _ _ _ _ _ _ _ _ _ _ _ _ _ _ _ _ _ _ _ _ _ _ _ _ _ _ _ _ _ _ _ _ _ _ _ _ _ _ _ _ _ _ _ _ _ _ _ _ _ _ _ _ _ _ _ _ _ _ _ _ _ _ _ _ _ _ _ _ _ _ _ _ _ _ _ _ _ _ _ _ _ _ _ _ _ _ _ _ _ _ _ _ _ _ _ _ _ _ _ _ _ _ _ _ _ _ _ _ _ _ _ _ _ _ _ _ _ _ _ _ _ _ _ _ _ _ _ _ _ _ _ _ _ _ _ _ _ _ _ _ _ _ _ _ _ _ _ _ _ _ _ _ _ _ _ _ _ _ _ _ _ _ _ _ _ _ _ _ _ _ _ _ _ _ _ _ _ _ _ _ _ _ _ _ _ _ _ _ _ _ _ _ _ _ _ _ _ _ _ _ _ _ _ _ _ _ _ _ _ _ _ _ _ _ _ _ _ _ _ _ _ _ _ _ _ _ _ _ _ _ _ _ _ _ _ _ _ _ _ _ _ _ _ _ _ _ _ _ _ _ _ _ _ _ _ _ _ _ _ _ _ _ _ _ _ _ _ _ _ _ _ _ _ _ _ _)
end Go.Proofs.Qxb6618441a
