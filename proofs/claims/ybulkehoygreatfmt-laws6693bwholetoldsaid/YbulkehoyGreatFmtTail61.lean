/-
  The law from region 61 on: what is compared behind deliver.
-/
import Derived.Test.YbulkehoyGreatFmtTail
import Derived.Test.YbulkehoyGreatFmtBools
import Derived.Test.YbulkehoyGreatFmtEnts
import Derived.Test.YbulkehoyGreatFmtSmall
import Derived.Lib.Builder
namespace Go.Proofs.YbulkehoyGreatFmt
set_option linter.unusedVariables false
open Go.RowKit

theorem neq36n (w : World) : (binOp .neq 36 (.pointer none) (.pointer none)).run Ybaz.prog w = .ok (.bool false) w := by kernel_rfl
theorem neq36 (p : Option Addr) (w : World) : (binOp .neq 36 (.pointer p) (.pointer p)).run Ybaz.prog w = .ok (.bool false) w := by
  have hi : (Ybaz.prog.info? 67).isSome = true := by kernel_rfl
  obtain ⟨j, hj⟩ := Option.isSome_iff_exists.1 hi
  cases p with
  | none => exact neq36n w
  | some a => exact Lib.run_neq_ptr_same w a Ybaz.underlying36 hj
theorem neq38n (w : World) : (binOp .neq 38 (.pointer none) (.pointer none)).run Ybaz.prog w = .ok (.bool false) w := by kernel_rfl
theorem neq38 (p : Option Addr) (w : World) : (binOp .neq 38 (.pointer p) (.pointer p)).run Ybaz.prog w = .ok (.bool false) w := by
  have hi : (Ybaz.prog.info? 59).isSome = true := by kernel_rfl
  obtain ⟨j, hj⟩ := Option.isSome_iff_exists.1 hi
  cases p with
  | none => exact neq38n w
  | some a => exact Lib.run_neq_ptr_same w a Ybaz.underlying38 hj
theorem neq65 (w : World) : (binOp .neq 65 (.pointer none) (.pointer none)).run Ybaz.prog w = .ok (.bool false) w := by kernel_rfl

set_option maxRecDepth 100000 in
set_option maxHeartbeats 4000000 in
theorem tail61 (ae a5 : Option Addr) (ne ce c5 n l N D S C G BN BR DC g3 x3 g4 x4 G5 : Nat) (R X : Nat → Nat) (r : Nat → Option Addr) (dn : Nat → Nat → Bool) (st cr : Nat → Bool) (es : List (Bool × List Int)) (w x : World) (K1 K2 : Act → World → Prop) (hK1 : ∀ a y, Code.wp Ybaz.prog (seqIn 61 (Ybaz.f3.body.getD .skip)).2.1 (Exit.then K2 (bodyPost Ybaz.prog Ybaz.f3 (Fin0 w))) a y → K1 a y)
    (hK2 : ∀ a y, Code.wp Ybaz.prog (seqIn 61 (Ybaz.f3.body.getD .skip)).2.2 (bodyPost Ybaz.prog Ybaz.f3 (Fin0 w)) a y → K2 a y)
    (u0 u1 u2 u3 u4 u5 u6 u7 u8 u9 u11 u12 u13 u14 u15 u16 u17 u18 u19 u20 u21 u22 u23 u24 u25 u26 u28 u30 u31 u32 u33 u34 u35 u36 u38 u41 u43 u47 u48 u49 u50 u51 u52 u53 u54 u55 u56 u57 u58 u59 u60 u61 u62 u63 u64 u65 u66 u67 u68 u69 u70 u71 u72 u73 u74 u75 u76 u77 u78 u79 u80 u81 u82 u83 u84 u85 u86 u87 u88 u89 u90 u91 u92 u93 u94 u95 u96 u97 u98 u99 u100 u101 u102 u103 u104 u105 u106 u107 u108 u109 u110 u111 u112 u113 u114 u115 u116 u117 u118 u119 u120 u121 u122 u123 u124 u125 u126 u127 u128 u129 u130 u131 u132 u133 u134 u135 u136 u137 u138 u139 u140 u141 u142 u143 u144 u145 u146 u147 u148 u149 u150 u151 u152 u153 u154 u155 u156 u157 u158 u159 u160 u161 u162 u163 u164 u165 u166 u167 u168 u169 u170 u171 u172 u173 u174 u175 u176 u177 u178 u179 u180 u181 u182 u183 u184 u185 u186 u187 u188 u189 u190 u191 u192 u193 u194 u195 u196 u197 u198 u199 u200 u201 u202 u203 u204 u205 u206 u207 u208 u209 u210 u211 u212 u213 u214 u215 u216 u217 u218 u219 u220 u221 u222 u223 u224 u225 u226 u227 u228 u229 u230 u231 u232 u233 u234 u235 u236 u237 u238 u239 u240 u241 u242 u243 u244 u245 u246 u247 u248 u249 u250 u251 u252 u253 u254 u255 u256 u257 u258 u259 u260 u261 u262 u263 u264 u265 u266 u267 u268 u269 u270 u271 u272 u273 u274 u275 u276 u277 u278 u279 u280 u281 u282 u283 u284 u285 u286 u287 u288 u289 u290 u291 u292 u293 u294 u295 u296 u297 u298 u299 u300 u301 u302 u303 u304 u305 u306 u307 u308 u309 u310 u311 u312 u313 u314 u315 u316 u317 u318 u319 u320 u321 u322 u323 u324 u325 u326 u327 u328 u329 u330 u331 u332 u333 u334 u335 u336 u337 u338 u339 u340 u341 u342 u343 u344 u345 u346 u347 u348 u349 u350 u351 u352 u353 u354 u355 u356 u357 u358 u359 u360 u361 u362 u363 u364 u365 u366 u367 u368 u369 u370 u371 u372 u373 u374 u375 u376 u377 u378 u379 u380 u381 u382 u383 u384 u385 u386 u387 u388 u389 u390 u391 u392 u393 u394 u395 u396 u397 u398 u399 u400 u401 u402 u403 u404 u405 u406 u407 u408 u409 u410 u411 u412 : Value)
    (hn8 : n ≤ 8) (hl : l ≤ n) (hNet : NetAt x n N D S C R dn st cr) (hb : Below w.heap.size w x) (hNodes : NodesAt x G l X r)
    (hBN : Row x BN l (fun i => .pointer (some ⟨X i, 0, none⟩))) (hBR : Row x BR l (fun i => .pointer (r i))) (hDC : Inv5 x DC n (n + 1) dn)
    (hg3 : Row x g3 (n + 1) (fun i => .bool (st i))) (hg4 : Row x g4 (n + 1) (fun i => .bool (cr i)))
    (h2 : ne ≤ 1048576) (hes : es.length = ne) (hents : Ents x w.heap.size ae es) (hnn : a5.isNone = ae.isNone) (hE5 : Ents x G5 a5 es) :
    Code.wp Ybaz.prog (seqIn 61 (Ybaz.f3.body.getD .skip)).1 (Exit.then K1 (Exit.then K2 (bodyPost Ybaz.prog Ybaz.f3 (Fin0 w)))) ⟨#[u0, u1, u2, u3, u4, u5, u6, u7, u8, u9, .slice ae ne ce, u11, u12, u13, u14, u15, u16, u17, u18, u19, u20, u21, u22, u23, u24, u25, u26, .int .i64 l, u28, .pointer (some ⟨N, 0, none⟩), u30, u31, u32, u33, u34, u35, u36, .slice (some ⟨G, 0, none⟩) l l, u38, .slice (some ⟨BN, 0, none⟩) l l, .slice (some ⟨BR, 0, none⟩) l l, u41, .slice (some ⟨DC, 0, none⟩) (n + 1) (n + 1), u43, .slice (some ⟨g3, 0, none⟩) (n + 1) x3, .slice (some ⟨g4, 0, none⟩) (n + 1) x4, .slice a5 ne c5, u47, u48, u49, u50, u51, u52, u53, u54, u55, u56, u57, u58, u59, u60, u61, u62, u63, u64, u65, u66, u67, u68, u69, u70, u71, u72, u73, u74, u75, u76, u77, u78, u79, u80, u81, u82, u83, u84, u85, u86, u87, u88, u89, u90, u91, u92, u93, u94, u95, u96, u97, u98, u99, u100, u101, u102, u103, u104, u105, u106, u107, u108, u109, u110, u111, u112, u113, u114, u115, u116, u117, u118, u119, u120, u121, u122, u123, u124, u125, u126, u127, u128, u129, u130, u131, u132, u133, u134, u135, u136, u137, u138, u139, u140, u141, u142, u143, u144, u145, u146, u147, u148, u149, u150, u151, u152, u153, u154, u155, u156, u157, u158, u159, u160, u161, u162, u163, u164, u165, u166, u167, u168, u169, u170, u171, u172, u173, u174, u175, u176, u177, u178, u179, u180, u181, u182, u183, u184, u185, u186, u187, u188, u189, u190, u191, u192, u193, u194, u195, u196, u197, u198, u199, u200, u201, u202, u203, u204, u205, u206, u207, u208, u209, u210, u211, u212, u213, u214, u215, u216, u217, u218, u219, u220, u221, u222, u223, u224, u225, u226, u227, u228, u229, u230, u231, u232, u233, u234, u235, u236, u237, u238, u239, u240, u241, u242, u243, u244, u245, u246, u247, u248, u249, u250, u251, u252, u253, u254, u255, u256, u257, u258, u259, u260, u261, u262, u263, u264, u265, u266, u267, u268, u269, u270, u271, u272, u273, u274, u275, u276, u277, u278, u279, u280, u281, u282, u283, u284, u285, u286, u287, u288, u289, u290, u291, u292, u293, u294, u295, u296, u297, u298, u299, u300, u301, u302, u303, u304, u305, u306, u307, u308, u309, u310, u311, u312, u313, u314, u315, u316, u317, u318, u319, u320, u321, u322, u323, u324, u325, u326, u327, u328, u329, u330, u331, u332, u333, u334, u335, u336, u337, u338, u339, u340, u341, u342, u343, u344, u345, u346, u347, u348, u349, u350, u351, u352, u353, u354, u355, u356, u357, u358, u359, u360, u361, u362, u363, u364, u365, u366, u367, u368, u369, u370, u371, u372, u373, u374, u375, u376, u377, u378, u379, u380, u381, u382, u383, u384, u385, u386, u387, u388, u389, u390, u391, u392, u393, u394, u395, u396, u397, u398, u399, u400, u401, u402, u403, u404, u405, u406, u407, u408, u409, u410, u411, u412], []⟩ x := by
  conv => arg 2; whnf
  conv at hK1 => enter [a, y, 1, 2]; whnf
  conv at hK2 => enter [a, y, 1, 2]; whnf
  have q36 := neq36
  have q38 := neq38
  have q65 := neq65
  go_wp2
  go_loopw [330] (fun i wr => ∃ k : Nat, k ≤ l ∧ i = .int .i64 k ∧ Below x.heap.size x wr) (fun i _ => l - (intOf i).toNat)
  case atStart => exact ⟨0, Nat.zero_le _, rfl, Below.refl _ _⟩
  case round =>
    obtain ⟨k, hk, rfl, hbr⟩ := hrel
    by_cases hlt : k < l
    · have hlt' : (k : Int) < (l : Int) := by omega
      have hN1 := hNodes.below hbr
      have cG := hN1.1.cell hlt
      have cX := (hN1.2 k hlt).2.1
      have c15 := (hN1.2 k hlt).2.2
      have cB := (hBN.below hbr).cell hlt
      have cR := (hBR.below hbr).cell hlt
      clear hNet hN1 hNodes hBN hBR hDC hg3 hg4 hents hE5
      go_wp2
      go_quiet (fail)
      go_wp2
      go_roundw
      case rel => exact ⟨k + 1, by omega, by go_num, hbr.trans ((below_drewN _ _).mono hbr.size)⟩
      case measure => simp [intOf]; omega
    · have hNet1 := hNet.below hbr
      have hDC1 := hDC.below hbr
      have hg31 := hg3.below hbr
      have hg41 := hg4.below hbr
      have hents1 := hents.below hbr
      have hE51 := hE5.below hbr
      have hbw := Below.comp hb hbr
      clear hNet hDC hg3 hg4 hents hE5 hb hbr hNodes hBN hBR q36 q38 q65
      have c0 := hNet1.c0
      generalize wr = y at *
      go_wp2
      go_loopw [377] (fun i wr => ∃ k : Nat, k ≤ n + 1 ∧ i = .int .i64 k ∧ Below y.heap.size y wr) (fun i _ => n + 1 - (intOf i).toNat)
      case atStart => exact ⟨0, Nat.zero_le _, rfl, Below.refl _ _⟩
      case round =>
        obtain ⟨k7, hk7, rfl, hbr⟩ := hrel
        by_cases hlt7 : k7 < n + 1
        · have hlt7' : (k7 : Int) < (n : Int) + 1 := by omega
          have hN2 := hNet1.below hbr
          have c0 := hN2.c0
          have cD := hN2.down k7 (by omega)
          have hR := hN2.rows k7 (by omega)
          obtain ⟨fd, hfd, hfb⟩ := hDC1.below hbr
          have cC := hfd.cell hlt7
          obtain ⟨gk, ck, _, hfk, hrk⟩ := hfb k7 hlt7
          rw [hfk] at cC
          clear hN2 hNet1 hDC1 hg31 hg41 hents1 hE51 hfd hfb
          go_wp2
          go_quiet ((go_at_call 8; exact Calls.quiet_of (bools_any (R k7) gk (n + 1) _ _ (by omega) (fun i => .bool (dn k7 i)) (dn k7) _ (fun _ _ => rfl) (by exact hR) (by exact hrk) _ _ (fun _ => rfl) (fun _ => rfl))))
          go_wp2
          go_roundw
          case rel => exact ⟨k7 + 1, by omega, by go_num, hbr.trans ((below_drewN _ _).mono hbr.size)⟩
          case measure => simp [intOf]; omega
        · have hN2 := hNet1.below hbr
          have c3 := hN2.c3
          have c4 := hN2.c4
          have hS := hN2.stR
          have hC := hN2.crR
          have hg3' := hg31.below hbr
          have hg4' := hg41.below hbr
          have he1 := hents1.below hbr
          have he5 := hE51.below hbr
          have hbw2 := Below.comp hbw hbr
          clear hN2 hNet1 hDC1 hg31 hg41 hents1 hE51 hbw hbr c0
          go_wp2_with fail
          refine (bools_any S g3 (n + 1) _ _ (by omega) (fun i => .bool (st i)) st wr (fun _ _ => rfl) hS hg3' _ _ (fun _ => rfl) (fun _ => rfl)).mono ?_
          rintro e w3 ⟨rfl, d3, rfl⟩
          go_wp2_with fail
          refine (bools_any C g4 (n + 1) _ _ (by omega) (fun i => .bool (cr i)) cr _ (fun _ _ => rfl) (by exact hC) (by exact hg4') _ _ (fun _ => rfl) (fun _ => rfl)).mono ?_
          rintro e w4 ⟨rfl, d4, rfl⟩
          go_wp2_with fail
          refine (same_any ae a5 ne ce c5 w.heap.size G5 es _ hes h2 hnn.symm (he1.below (below_drewN _ _)) (he5.below (below_drewN _ _))).mono ?_
          rintro e w5 ⟨rfl, hb5⟩
          go_wp2_with fail
          go_ret
          exact ⟨rfl, Below.comp (Below.comp hbw2 (below_drewN _ _)) hb5⟩

end Go.Proofs.YbulkehoyGreatFmt
