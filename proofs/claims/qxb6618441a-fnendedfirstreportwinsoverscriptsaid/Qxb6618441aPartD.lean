/-
  The law's own walk: the code behind block 12.
-/
import Derived.Test.Qxb6618441aPartE
namespace Go.Proofs.Qxb6618441a
open Go.RowKit Mem
set_option linter.unusedVariables false

set_option maxRecDepth 100000 in
set_option maxHeartbeats 100000000 in
theorem partD (a r nw ia : Option Addr) (ca cr cn ci : Nat) (cs : List Cmd) (run : List Run) (nows ids : List Int) (w : World) (hC : RC w a cs.length cs) (hR : RR w r run.length run) (hN : RI w nw nows.length nows) (hI : RI w ia ids.length ids)
    (h1 : cs.length ≤ 4096) (h2 : run.length ≤ 4096) (h3 : nows.length ≤ 4096) (h4 : ids.length ≤ 4096) (hwr : ∀ i, W64 (run.getD i (0, 0)).1 ∧ W64 (run.getD i (0, 0)).2) (hwi : ∀ i, W64 (ids.getD i 0))
    (HPR : Hid (∀ i, i < run.length → eff run i = true → 0 ≤ (run.getD i (0, 0)).2 ∧ (run.getD i (0, 0)).2 < cs.length)) (N : Nat) (hN1 : N ≤ nows.length) (hN2 : N ≤ ids.length) (gc : Nat) (hwgc : w.heap.size ≤ gc)
    (gm : Nat) (hgcm : gc ≠ gm) (hwgm : w.heap.size ≤ gm) (gt : Nat) (e0 : (cs.map Cmd.e).length = cs.length) (ks8 : List Int) (gw : Nat) (hwgw : w.heap.size ≤ gw) (ngt : gt < gw) (ngc : gc < gw) (ngm : gm < gw) (w10 w11 : World) (hwant10 : Arr w10 gw 2 (L64 (cs.map Cmd.e))) (htr10 : Trace w10 gt gc gm run.length cs (ends (cs.map Cmd.e) run nows ids N) (now run ids N) ks8) (hb10' : Below w.heap.size w w10) (hwant11 : Arr w11 gw 2 (L64 (ends (cs.map Cmd.e) run nows ids N))) (hb11 : Below gw w10 w11)
    (u4 u5 u6 u7 u8 u9 u10 u11 u12 u15 u17 u19 u21 u22 u23 u24 u25 u26 u27 u28 u29 u30 u31 u32 u33 u34 u35 u36 u37 u38 u39 u40 u41 u42 u43 u44 u45 u46 u47 u48 u49 u50 u51 u52 u53 u54 u55 u56 u57 u58 u59 u60 u61 u62 u63 u64 u65 u66 u67 u68 u69 u70 u71 u72 u73 u74 u75 u76 u77 u78 u79 u80 u81 u82 u83 u84 u85 u86 u87 u88 u89 u90 u91 u92 u93 u94 u95 u96 u97 u98 u99 u100 u101 u102 u103 u104 u105 u106 u107 u108 u109 u110 u111 u112 u113 u114 u115 u116 u117 u118 u119 u120 u121 u122 u123 u124 u125 u126 u127 u128 u129 u130 u131 u132 u133 u134 u135 u136 u137 u138 u139 u140 u141 u142 u143 u144 u145 u146 u147 u148 u149 u150 u151 u152 u153 u154 u155 u156 u157 u158 u159 u160 u161 u162 u163 u164 u165 u166 u167 u168 u169 u170 u171 u172 u173 u174 u175 u176 u177 u178 u179 u180 u181 u182 u183 u184 u185 u186 u187 u188 u189 u190 u191 u192 u193 u194 u195 u196 u197 u198 u199 u200 u201 u202 u203 u204 u205 u206 u207 u208 u209 u210 u211 u212 u213 u214 u215 u216 u217 u218 u219 u220 u221 u222 u223 u224 u225 u226 u227 u228 u229 u230 u231 u232 u233 u234 u235 u236 u237 u238 u239 u240 u241 u242 u243 u244 u245 u246 u247 u248 u249 u250 u251 u252 u253 u254 u255 u256 u257 u258 u259 u260 u261 u262 u263 u264 u265 u266 u267 u268 u269 u270 u271 u272 u273 u274 u275 u276 u277 u278 u279 u280 u281 u282 u283 u284 u285 u286 u287 u288 u289 u290 u291 u292 u293 u294 u295 u296 u297 u298 u299 u300 u301 u302 u303 u304 u305 u306 u307 u308 u309 u310 u311 u312 u313 u314 u315 u316 u317 u318 u319 u320 u321 u322 u323 u324 u325 u326 u327 u328 u329 u330 u331 u332 u333 u334 u335 u336 u337 u338 u339 u340 u341 u342 u343 u344 u345 u346 u347 u348 u349 u350 u351 u352 u353 u354 u355 u356 u357 : Value) :
    Code.wp Try.prog (restOf 12) (bodyPost Try.prog Try.f3 fun e w' => e = .returned (.bool true) ∧ Below w.heap.size w w') ⟨#[.slice a cs.length ca, .slice r run.length cr, .slice nw nows.length cn, .slice ia ids.length ci, u4, u5, u6, u7, u8, u9, u10, u11, u12, .int .i64 (N : Int), .slice (some ⟨gc, 0, none⟩) cs.length cs.length, u15, .map (some gm), u17, .pointer (some ⟨gt, 0, none⟩), u19, .slice (some ⟨gw, 0, none⟩) cs.length cs.length, u21, u22, u23, u24, u25, u26, u27, u28, u29, u30, u31, u32, u33, u34, u35, u36, u37, u38, u39, u40, u41, u42, u43, u44, u45, u46, u47, u48, u49, u50, u51, u52, u53, u54, u55, u56, u57, u58, u59, u60, u61, u62, u63, u64, u65, u66, u67, u68, u69, u70, u71, u72, u73, u74, u75, u76, u77, u78, u79, u80, u81, u82, u83, u84, u85, u86, u87, u88, u89, u90, u91, u92, u93, u94, u95, u96, u97, u98, u99, u100, u101, u102, u103, u104, u105, u106, u107, u108, u109, u110, u111, u112, u113, u114, u115, u116, u117, u118, u119, u120, u121, u122, u123, u124, u125, u126, u127, u128, u129, u130, u131, u132, u133, u134, u135, u136, u137, u138, u139, u140, u141, u142, u143, u144, u145, u146, u147, u148, u149, u150, u151, u152, u153, u154, u155, u156, u157, u158, u159, u160, u161, u162, u163, u164, u165, u166, u167, u168, u169, u170, u171, u172, u173, u174, u175, u176, u177, u178, u179, u180, u181, u182, u183, u184, u185, u186, u187, u188, u189, u190, u191, u192, u193, u194, u195, u196, u197, u198, u199, u200, u201, u202, u203, u204, u205, u206, u207, u208, u209, u210, u211, u212, u213, u214, u215, u216, u217, u218, u219, u220, u221, u222, u223, u224, u225, u226, u227, u228, u229, u230, u231, u232, u233, u234, u235, u236, u237, u238, u239, u240, u241, u242, u243, u244, u245, u246, u247, u248, u249, u250, u251, u252, u253, u254, u255, u256, u257, u258, u259, u260, u261, u262, u263, u264, u265, u266, u267, u268, u269, u270, u271, u272, u273, u274, u275, u276, u277, u278, u279, u280, u281, u282, u283, u284, u285, u286, u287, u288, u289, u290, u291, u292, u293, u294, u295, u296, u297, u298, u299, u300, u301, u302, u303, u304, u305, u306, u307, u308, u309, u310, u311, u312, u313, u314, u315, u316, u317, u318, u319, u320, u321, u322, u323, u324, u325, u326, u327, u328, u329, u330, u331, u332, u333, u334, u335, u336, u337, u338, u339, u340, u341, u342, u343, u344, u345, u346, u347, u348, u349, u350, u351, u352, u353, u354, u355, u356, u357], []⟩ w11 := by
  conv => arg 2; whnf
  have m1 : cs.length ≤ maxLen := by unfold maxLen; omega
  have m2 : run.length ≤ maxLen := by unfold maxLen; omega
  have m3 : nows.length ≤ maxLen := by unfold maxLen; omega
  have m4 : ids.length ≤ maxLen := by unfold maxLen; omega
  have htr11 := htr10.belowB hb11 ngt ngc ngm
  have hb11' : Below w.heap.size w w11 := hb10'.trans (hb11.mono hwgw)
  clear hwant10 htr10 hb11 hb10'
  have hesl : (ends (cs.map Cmd.e) run nows ids N).length = cs.length := by rw [ends_length, e0]
  generalize ends (cs.map Cmd.e) run nows ids N = es at hwant11 htr11 hesl
  -- loop 9: the commands are those that came, their ends as wanted
  go_upto_block 16 with (go_at_call 9; refine (zzcommands_any gt gc gm cs.length _ htr11.box).mono ?_; rintro e w' ⟨rfl, rfl⟩)
  go_cut [] (fun wx => Below w11.heap.size w11 wx)
  case first =>
    go_wp2
    go_loopw [28, 29, 30] (fun j _ _ wr => ∃ (k : Nat), k ≤ cs.length ∧ j = .int .i64 k ∧ Below w11.heap.size w11 wr) (fun j _ _ _ => cs.length - (intOf j).toNat)
    case atStart => exact ⟨0, by omega, rfl, Below.refl _ _⟩
    case round =>
      obtain ⟨k, hk, rfl, hb⟩ := hrel
      by_cases hlt : k < cs.length
      · obtain ⟨vs, hrow, hvs⟩ := (htr11.below hb).row
        have hrk := hvs.2 k hlt
        obtain ⟨b', off, rfl, c0, c1, c2, c3, c4⟩ := (hC.below (hb11'.trans (hb.mono hb11'.size))).cell hlt
        obtain ⟨c, hc⟩ : ∃ c, c = cs.getD k Cmd.none := ⟨_, rfl⟩
        obtain ⟨x, hx⟩ : ∃ x, x = es.getD k 0 := ⟨_, rfl⟩
        rw [← hc] at c0 c1 c2 c3 c4 hrk
        rw [← hx] at hrk
        obtain ⟨r0, r1, r2, r3, r4⟩ := hrk
        have hwx : wr.cell? ⟨gw, k, none⟩ = some (.int .i64 x) := by rw [hb.cell (by exact hwant11.lt), hwant11.cell, L64_get _ _ (by omega), ← hx]
        have hrange : wr.rangeAt gc (k * 5) (Cmd.cells { c with e := x }) := fun j v hv => by
          rw [hrow.cell]
          match j, hv with
          | 0, hv => rw [← hv]; exact r0
          | 1, hv => rw [← hv]; exact r1
          | 2, hv => rw [← hv]; exact r2
          | 3, hv => rw [← hv]; exact r3
          | 4, hv => rw [← hv]; exact r4
        have hrangeC : wr.rangeAt b' (off + k * 5) (Cmd.cells c) := fun j v hv => by
          match j, hv with
          | 0, hv => simp only [Nat.add_zero]; rw [c0, ← hv]; rfl
          | 1, hv => rw [c1, ← hv]; rfl
          | 2, hv => rw [c2, ← hv]; rfl
          | 3, hv => rw [c3, ← hv]; rfl
          | 4, hv => rw [c4, ← hv]; rfl
        have hgwl' : gw < wr.heap.size := Nat.lt_of_lt_of_le hwant11.lt hb.size
        clear hc hx hrow hvs r0 r1 r2 r3 r4 c0 c1 c2 c3 c4 hR hN hI hwr hwi hC htr11 hwant11
        go_upto_region 63 with (first
          | (refine wpList_load_mid rfl 33 (.tmp 272) rfl gc (k * 5) rfl _ _ hrange Try.underlying33 rfl (Try.size33 _) ?_)
          | (refine wpList_alloc_abs rfl 33 rfl _ Try.zero33 ?_; intro gg wa hgg hggl hGG hba)
          | (refine wpList_store_abs rfl 33 (.tmp 29) (.tmp 273) rfl gg rfl 33 _ (Cmd.cells { c with e := x }) rfl (by simpa [Value.cells] using hGG : Arr wa gg 33 (Cmd.cells Cmd.none)) rfl (Try.size33 _) (Cmd.one _) ?_; intro wb hGb hbb _)
          | (refine wpList_load_mid rfl 28 (.tmp 276) rfl b' (off + k * 5) rfl _ _ (World.rangeAt_below hrangeC ((hba.trans (hbb _ hgg)))) Try.underlying28 rfl (Try.size28 _) ?_)
          | (refine wpList_alloc_abs rfl 28 rfl _ Try.zero28 ?_; intro gk wd hgk hgkl hKK hbd)
          | (refine wpList_store_abs rfl 28 (.tmp 30) (.tmp 277) rfl gk rfl 28 _ (Cmd.cells c) rfl (by simpa [Value.cells] using hKK : Arr wd gk 28 (Cmd.cells Cmd.none)) rfl (Try.size28 _) (Cmd.one _) ?_; intro we hKe hbe _))
        have hab : Below wr.heap.size wr wb := hba.trans (hbb _ hgg)
        have hbe' : Below wr.heap.size wr we := hab.trans ((hbd.mono hab.size).trans (hbe _ (Nat.le_trans hab.size hgk)))
        have hGe : Arr we gg 33 (Cmd.cells { c with e := x }) := (hGb.below hbd hGb.lt).below (hbe gk (Nat.le_refl _)) (by have := hGb.lt; omega)
        have g0 : we.cell? ⟨gg, 0, none⟩ = some (.int .i64 c.r) := by rw [hGe.cell]; rfl
        have g1 : we.cell? ⟨gg, 1, none⟩ = some (.string c.d) := by rw [hGe.cell]; rfl
        have g2 : we.cell? ⟨gg, 2, none⟩ = some (.string c.a) := by rw [hGe.cell]; rfl
        have g3 : we.cell? ⟨gg, 3, none⟩ = some (.int .i64 c.s) := by rw [hGe.cell]; rfl
        have g4 : we.cell? ⟨gg, 4, none⟩ = some (.int .i64 x) := by rw [hGe.cell]; rfl
        have k0 : we.cell? ⟨gk, 0, none⟩ = some (.int .i64 c.r) := by rw [hKe.cell]; rfl
        have k1 : we.cell? ⟨gk, 1, none⟩ = some (.string c.d) := by rw [hKe.cell]; rfl
        have k2 : we.cell? ⟨gk, 2, none⟩ = some (.string c.a) := by rw [hKe.cell]; rfl
        have k3 : we.cell? ⟨gk, 3, none⟩ = some (.int .i64 c.s) := by rw [hKe.cell]; rfl
        have k4 : we.cell? ⟨gw, k, none⟩ = some (.int .i64 x) := (hbe'.cell (by exact hgwl')).trans hwx
        have hbf : Below w11.heap.size w11 we := hb.trans (hbe'.mono hb.size)
        clear hab hGe hGb hKe hGG hKK hba hbb hbd hbe hbe' hrange hrangeC hwx hb
        simp only [Act.put, List.setIfInBounds_toArray, List.set_cons_succ, List.set_cons_zero]
        go_quiet (fail)
        go_wp2
        go_roundw
        case rel => exact ⟨k + 1, by omega, by go_num, below_drewN hbf _⟩
        case measure => simp [intOf]; omega
      · go_wp2
        go_meet
        case rel => exact hb
  obtain ⟨w12, rfl⟩ : ∃ w12, w12 = wc := ⟨_, rfl⟩
  exact useK (by assumption) (partE a r nw ia ca cr cn ci cs run nows ids w hC hR hN hI h1 h2 h3 h4 hwr hwi HPR N hN1 hN2 gc hwgc gm hgcm hwgm gt e0 ks8 gw hwgw ngt ngc ngm w11 w12 hb11' es hwant11 htr11 hesl hcut _ _ _ _ _ _ _ _ _ _ _ _ _ _ _ _ _ _ _ _ _ _ _ _ _ _ _ _ _ _ _ _ _ _ _ _ _ _ _ _ _ _ _ _ _ _ _ _ _ _ _ _ _ _ _ _ _ _ _ _ _ _ _ _ _ _ _ _ _ _ _ _ _ _ _ _ _ _ _ _ _ _ _ _ _ _ _ _ _ _ _ _ _ _ _ _ _ _ _ _ _ _ _ _ _ _ _ _ _ _ _ _ _ _ _ _ _ _ _ _ _ _ _ _ _ _ _ _ _ _ _ _ _ _ _ _ _ _ _ _ _ _ _ _ _ _ _ _ _ _ _ _ _ _ _ _ _ _ _ _ _ _ _ _ _ _ _ _ _ _ _ _ _ _ _ _ _ _ _ _ _ _ _ _ _ _ _ _ _ _ _ _ _ _ _ _ _ _ _ _ _ _ _ _ _ _ _ _ _ _ _ _ _ _ _ _ _ _ _ _ _ _ _ _ _ _ _ _ _ _ _ _ _ _ _ _ _ _ _ _ _ _ _ _ _ _ _ _ _ _ _ _ _ _ _ _ _ _ _ _ _ _ _ _ _ _ _ _ _ _ _ _ _ _ _ _ _ _ _ _ _ _ _ _ _ _ _ _ _ _ _ _ _ _ _ _ _ _ _ _ _ _ _ _ _ _ _ _ _ _ _ _ _ _ _ _ _ _ _ _ _ _ _ _ _ _ _ _ _ _ _ _ _ _ _ _ _ _ _ _ _ _ _ _ _ _ _ _ _)
end Go.Proofs.Qxb6618441a
