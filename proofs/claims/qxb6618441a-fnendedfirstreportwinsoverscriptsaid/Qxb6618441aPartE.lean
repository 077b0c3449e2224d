/-
  The law's own walk: the code behind block 16.
-/
import Derived.Test.Qxb6618441aRest
namespace Go.Proofs.Qxb6618441a
open Go.RowKit Mem
set_option linter.unusedVariables false

set_option maxRecDepth 100000 in
set_option maxHeartbeats 100000000 in
theorem partE (a r nw ia : Option Addr) (ca cr cn ci : Nat) (cs : List Cmd) (run : List Run) (nows ids : List Int) (w : World) (hC : RC w a cs.length cs) (hR : RR w r run.length run) (hN : RI w nw nows.length nows) (hI : RI w ia ids.length ids)
    (h1 : cs.length ≤ 4096) (h2 : run.length ≤ 4096) (h3 : nows.length ≤ 4096) (h4 : ids.length ≤ 4096) (hwr : ∀ i, W64 (run.getD i (0, 0)).1 ∧ W64 (run.getD i (0, 0)).2) (hwi : ∀ i, W64 (ids.getD i 0))
    (HPR : Hid (∀ i, i < run.length → eff run i = true → 0 ≤ (run.getD i (0, 0)).2 ∧ (run.getD i (0, 0)).2 < cs.length)) (N : Nat) (hN1 : N ≤ nows.length) (hN2 : N ≤ ids.length) (gc : Nat) (hwgc : w.heap.size ≤ gc)
    (gm : Nat) (hgcm : gc ≠ gm) (hwgm : w.heap.size ≤ gm) (gt : Nat) (e0 : (cs.map Cmd.e).length = cs.length) (ks8 : List Int) (gw : Nat) (hwgw : w.heap.size ≤ gw) (ngt : gt < gw) (ngc : gc < gw) (ngm : gm < gw) (w11 w12 : World) (hb11' : Below w.heap.size w w11) (es : List Int) (hwant11 : Arr w11 gw 2 (L64 es)) (htr11 : Trace w11 gt gc gm run.length cs es (now run ids N) ks8) (hesl : es.length = cs.length) (hcut : Below w11.heap.size w11 w12)
    (u4 u5 u6 u7 u8 u9 u10 u11 u12 u15 u17 u19 u21 u22 u23 u24 u25 u26 u27 u28 u29 u30 u31 u32 u33 u34 u35 u36 u37 u38 u39 u40 u41 u42 u43 u44 u45 u46 u47 u48 u49 u50 u51 u52 u53 u54 u55 u56 u57 u58 u59 u60 u61 u62 u63 u64 u65 u66 u67 u68 u69 u70 u71 u72 u73 u74 u75 u76 u77 u78 u79 u80 u81 u82 u83 u84 u85 u86 u87 u88 u89 u90 u91 u92 u93 u94 u95 u96 u97 u98 u99 u100 u101 u102 u103 u104 u105 u106 u107 u108 u109 u110 u111 u112 u113 u114 u115 u116 u117 u118 u119 u120 u121 u122 u123 u124 u125 u126 u127 u128 u129 u130 u131 u132 u133 u134 u135 u136 u137 u138 u139 u140 u141 u142 u143 u144 u145 u146 u147 u148 u149 u150 u151 u152 u153 u154 u155 u156 u157 u158 u159 u160 u161 u162 u163 u164 u165 u166 u167 u168 u169 u170 u171 u172 u173 u174 u175 u176 u177 u178 u179 u180 u181 u182 u183 u184 u185 u186 u187 u188 u189 u190 u191 u192 u193 u194 u195 u196 u197 u198 u199 u200 u201 u202 u203 u204 u205 u206 u207 u208 u209 u210 u211 u212 u213 u214 u215 u216 u217 u218 u219 u220 u221 u222 u223 u224 u225 u226 u227 u228 u229 u230 u231 u232 u233 u234 u235 u236 u237 u238 u239 u240 u241 u242 u243 u244 u245 u246 u247 u248 u249 u250 u251 u252 u253 u254 u255 u256 u257 u258 u259 u260 u261 u262 u263 u264 u265 u266 u267 u268 u269 u270 u271 u272 u273 u274 u275 u276 u277 u278 u279 u280 u281 u282 u283 u284 u285 u286 u287 u288 u289 u290 u291 u292 u293 u294 u295 u296 u297 u298 u299 u300 u301 u302 u303 u304 u305 u306 u307 u308 u309 u310 u311 u312 u313 u314 u315 u316 u317 u318 u319 u320 u321 u322 u323 u324 u325 u326 u327 u328 u329 u330 u331 u332 u333 u334 u335 u336 u337 u338 u339 u340 u341 u342 u343 u344 u345 u346 u347 u348 u349 u350 u351 u352 u353 u354 u355 u356 u357 : Value) :
    Code.wp Try.prog (restOf 16) (bodyPost Try.prog Try.f3 fun e w' => e = .returned (.bool true) ∧ Below w.heap.size w w') ⟨#[.slice a cs.length ca, .slice r run.length cr, .slice nw nows.length cn, .slice ia ids.length ci, u4, u5, u6, u7, u8, u9, u10, u11, u12, .int .i64 (N : Int), .slice (some ⟨gc, 0, none⟩) cs.length cs.length, u15, .map (some gm), u17, .pointer (some ⟨gt, 0, none⟩), u19, .slice (some ⟨gw, 0, none⟩) cs.length cs.length, u21, u22, u23, u24, u25, u26, u27, u28, u29, u30, u31, u32, u33, u34, u35, u36, u37, u38, u39, u40, u41, u42, u43, u44, u45, u46, u47, u48, u49, u50, u51, u52, u53, u54, u55, u56, u57, u58, u59, u60, u61, u62, u63, u64, u65, u66, u67, u68, u69, u70, u71, u72, u73, u74, u75, u76, u77, u78, u79, u80, u81, u82, u83, u84, u85, u86, u87, u88, u89, u90, u91, u92, u93, u94, u95, u96, u97, u98, u99, u100, u101, u102, u103, u104, u105, u106, u107, u108, u109, u110, u111, u112, u113, u114, u115, u116, u117, u118, u119, u120, u121, u122, u123, u124, u125, u126, u127, u128, u129, u130, u131, u132, u133, u134, u135, u136, u137, u138, u139, u140, u141, u142, u143, u144, u145, u146, u147, u148, u149, u150, u151, u152, u153, u154, u155, u156, u157, u158, u159, u160, u161, u162, u163, u164, u165, u166, u167, u168, u169, u170, u171, u172, u173, u174, u175, u176, u177, u178, u179, u180, u181, u182, u183, u184, u185, u186, u187, u188, u189, u190, u191, u192, u193, u194, u195, u196, u197, u198, u199, u200, u201, u202, u203, u204, u205, u206, u207, u208, u209, u210, u211, u212, u213, u214, u215, u216, u217, u218, u219, u220, u221, u222, u223, u224, u225, u226, u227, u228, u229, u230, u231, u232, u233, u234, u235, u236, u237, u238, u239, u240, u241, u242, u243, u244, u245, u246, u247, u248, u249, u250, u251, u252, u253, u254, u255, u256, u257, u258, u259, u260, u261, u262, u263, u264, u265, u266, u267, u268, u269, u270, u271, u272, u273, u274, u275, u276, u277, u278, u279, u280, u281, u282, u283, u284, u285, u286, u287, u288, u289, u290, u291, u292, u293, u294, u295, u296, u297, u298, u299, u300, u301, u302, u303, u304, u305, u306, u307, u308, u309, u310, u311, u312, u313, u314, u315, u316, u317, u318, u319, u320, u321, u322, u323, u324, u325, u326, u327, u328, u329, u330, u331, u332, u333, u334, u335, u336, u337, u338, u339, u340, u341, u342, u343, u344, u345, u346, u347, u348, u349, u350, u351, u352, u353, u354, u355, u356, u357], []⟩ w12 := by
  conv => arg 2; whnf
  have m1 : cs.length ≤ maxLen := by unfold maxLen; omega
  have m2 : run.length ≤ maxLen := by unfold maxLen; omega
  have m3 : nows.length ≤ maxLen := by unfold maxLen; omega
  have m4 : ids.length ≤ maxLen := by unfold maxLen; omega
  have hb12 := hcut
  have htr12 := htr11.below hb12
  have hb12' : Below w.heap.size w w12 := hb11'.trans (hb12.mono hb11'.size)
  have hR12 := hR.below hb12'
  have hI12 := hI.below hb12'
  have hkl : ks8.length = leftTo run ids N run.length := keys_left run ids N ks8 (by obtain ⟨_, _, _, _, q⟩ := htr12.map; exact q)
  have HKL : Hid (ks8.length = leftTo run ids N run.length) := hkl
  have hmap12 := htr12.map
  clear hkl hcut hb12 htr11 hb11' hwant11 hC hR hN hI
  -- loop 10: the running map is what it was less what was reported
  go_upto_block 18 with (go_at_call 10; refine (zzrunning_any gt gc gm cs.length _ htr12.box).mono ?_; rintro e w' ⟨rfl, rfl⟩)
  clear htr12
  go_cut [32] (fun s32 wx => s32 = .int .i64 (leftTo run ids N run.length : Nat) ∧ ∃ n, wx = w12.drewN n)
  case first =>
    go_wp2
    go_loopw [32, 33, 34, 35, 36] (fun t j _ _ _ wr => ∃ (k : Nat), k ≤ run.length ∧ j = .int .i64 k ∧ t = .int .i64 (leftTo run ids N k : Nat) ∧ Hid (∃ n, wr = w12.drewN n)) (fun _ j _ _ _ _ => run.length - (intOf j).toNat)
    case atStart => exact ⟨0, by omega, rfl, rfl, 0, rfl⟩
    case round =>
      obtain ⟨k, hk, rfl, rfl, hn⟩ := hrel
      have hRr : RR wr r run.length run := by obtain ⟨n, rfl⟩ := hn.out; exact hR12
      have hIr : RI wr ia ids.length ids := by obtain ⟨n, rfl⟩ := hn.out; exact hI12
      have hMr : MapIs wr gm run.length (now run ids N) ks8 := by obtain ⟨n, rfl⟩ := hn.out; exact hmap12
      by_cases hlt : k < run.length
      · obtain ⟨b', off, rfl, c1, c2⟩ := hRr.cell hlt
        obtain ⟨q, hq⟩ : ∃ q, q = run.getD k (0, 0) := ⟨_, rfl⟩
        rw [← hq] at c1 c2
        have hwq := hwr k
        rw [← hq] at hwq
        have hls := leftTo_succ run ids N k
        rw [← hq] at hls
        have hll := leftTo_le run ids N k
        have hlast : eff run k = true → lastPos run q.1 = some q.2 := fun he => by rw [hq]; exact eff_last run k hlt he
        have HLA : Hid (eff run k = true → lastPos run q.1 = some q.2) := hlast
        have HLS : Hid (leftTo run ids N (k + 1) = leftTo run ids N k + if eff run k && !called ids N q.1 then 1 else 0) := hls
        generalize leftTo run ids N k = lf at HLS hll
        have hMrD : ∀ n, MapIs (wr.drewN n) gm run.length (now run ids N) ks8 := fun n => hMr
        have hIrD : ∀ n, RI (wr.drewN n) ia ids.length ids := fun n => hIr
        clear hq hls hlast hwr hwi hR12 hI12
        cases he : eff run k with
        | false =>
          have HE : Hid (eff run k = false) := he
          rw [he] at HLS
          clear he
          go_wp2_with (go_at_call 5; refine (eff_any _ cr k run _ hRr hlt h2).mono ?_; rintro e w' ⟨rfl, n, rfl⟩; rw [HE.out])
          go_roundw
          case rel => exact ⟨k + 1, by omega, by go_num, by rw [HLS.out]; rfl, by obtain ⟨m, rfl⟩ := hn.out; exact ⟨m + n, World.drewN_drewN _ _ _⟩⟩
          case measure => simp [intOf]; omega
        | true =>
          have HE : Hid (eff run k = true) := he
          have hlp := HLA.out he
          rw [he] at HLS
          clear he
          cases hcl : called ids N q.1 with
          | true =>
            have HCL : Hid (called ids N q.1 = true) := hcl
            have HNW : Hid (now run ids N q.1 = none) := by show now _ _ _ _ = _; unfold now; rw [hcl, if_pos rfl]
            rw [hcl] at HLS
            clear hcl hlp HLA
            go_wp2_with (first
              | (go_at_call 5; refine (eff_any _ cr k run _ hRr hlt h2).mono ?_; rintro e w' ⟨rfl, n, rfl⟩; rw [HE.out])
              | (refine wpList_get rfl (.tmp 331) (.tmp 332) rfl gm run.length (now run ids N) ks8 rfl (hMrD _) q.1 rfl hwq.1 ?_; rw [HNW.out])
              | (go_at_call 11; refine (called_any ia ci ids.length N q.1 ids _ (hIrD _) hN2 h4).mono ?_; rintro e w' ⟨rfl, rfl⟩; rw [HCL.out]))
            go_roundw
            case rel => exact ⟨k + 1, by omega, by go_num, by rw [HLS.out]; first | rfl | go_num, by obtain ⟨m, rfl⟩ := hn.out; exact ⟨m + _, World.drewN_drewN _ _ _⟩⟩
            case measure => simp [intOf]; omega
          | false =>
            have HCL : Hid (called ids N q.1 = false) := hcl
            have HNW : Hid (now run ids N q.1 = some q.2) := by show now _ _ _ _ = _; unfold now; rw [hcl]; exact hlp
            rw [hcl] at HLS
            clear hcl hlp HLA
            go_wp2_with (first
              | (go_at_call 5; refine (eff_any _ cr k run _ hRr hlt h2).mono ?_; rintro e w' ⟨rfl, n, rfl⟩; rw [HE.out])
              | (refine wpList_get rfl (.tmp 331) (.tmp 332) rfl gm run.length (now run ids N) ks8 rfl (hMrD _) q.1 rfl hwq.1 ?_; rw [HNW.out])
              | (go_at_call 11; refine (called_any ia ci ids.length N q.1 ids _ (hIrD _) hN2 h4).mono ?_; rintro e w' ⟨rfl, rfl⟩; rw [HCL.out]))
            go_roundw
            case rel => exact ⟨k + 1, by omega, by go_num, by rw [HLS.out]; first | rfl | go_num, by obtain ⟨m, rfl⟩ := hn.out; exact ⟨m + _, World.drewN_drewN _ _ _⟩⟩
            case measure => simp [intOf]; omega
      · go_wp2
        go_meet
        case rel =>
          obtain rfl : k = run.length := by omega
          exact ⟨rfl, hn.out⟩
  obtain ⟨rfl, n, rfl⟩ := hcut
  have hmap13 : MapIs (w12.drewN n) gm run.length (now run ids N) ks8 := hmap12
  have hll := leftTo_le run ids N run.length
  generalize leftTo run ids N run.length = lf at HKL hll
  go_wp2_with (refine wpList_mapLen rfl (.tmp 354) rfl gm run.length _ ks8 rfl hmap13 ?_; rw [HKL.out])
  go_ret
  exact ⟨ret_bool (by simp), below_drewN hb12' n⟩
end Go.Proofs.Qxb6618441a
