/-
  The law from region 56 on: the copies, the message, deliver.
-/
import Derived.Test.YbulkehoyGreatFmtTail
import Derived.Test.YbulkehoyGreatFmtBools
import Derived.Test.YbulkehoyGreatFmtClone
import Derived.Test.YbulkehoyGreatFmtTail59
namespace Go.Proofs.YbulkehoyGreatFmt
set_option linter.unusedVariables false
open Go.RowKit Go.Extern.Stop Go.Stop Go.Extern

set_option maxRecDepth 100000 in
set_option maxHeartbeats 4000000 in
theorem tail56 (F : Interp) (kind frm mto decided : Int) (ae : Option Addr) (ne ce n l v t N D S C G BN BR DC : Nat) (R X : Nat → Nat) (r : Nat → Option Addr) (dn : Nat → Nat → Bool) (st cr : Nat → Bool) (es : List (Bool × List Int)) (w x : World) (K : Act → World → Prop) (hK : ∀ a y, Code.wp Ybaz.prog (seqAt 56 (Ybaz.f3.body.getD .skip)).2 (bodyPost Ybaz.prog Ybaz.f3 (Fin0 w)) a y → K a y)
    (u0 u1 u2 u3 u4 u5 u11 u12 u13 u14 u15 u16 u17 u18 u19 u20 u21 u22 u23 u24 u25 u26 u28 u30 u31 u32 u33 u36 u38 u41 u43 u44 u45 u46 u47 u48 u49 u50 u51 u52 u53 u54 u55 u56 u57 u58 u59 u60 u61 u62 u63 u64 u65 u66 u67 u68 u69 u70 u71 u72 u73 u74 u75 u76 u77 u78 u79 u80 u81 u82 u83 u84 u85 u86 u87 u88 u89 u90 u91 u92 u93 u94 u95 u96 u97 u98 u99 u100 u101 u102 u103 u104 u105 u106 u107 u108 u109 u110 u111 u112 u113 u114 u115 u116 u117 u118 u119 u120 u121 u122 u123 u124 u125 u126 u127 u128 u129 u130 u131 u132 u133 u134 u135 u136 u137 u138 u139 u140 u141 u142 u143 u144 u145 u146 u147 u148 u149 u150 u151 u152 u153 u154 u155 u156 u157 u158 u159 u160 u161 u162 u163 u164 u165 u166 u167 u168 u169 u170 u171 u172 u173 u174 u175 u176 u177 u178 u179 u180 u181 u182 u183 u184 u185 u186 u187 u188 u189 u190 u191 u192 u193 u194 u195 u196 u197 u198 u199 u200 u201 u202 u203 u204 u205 u206 u207 u208 u209 u210 u211 u212 u213 u214 u215 u216 u217 u218 u219 u220 u221 u222 u223 u224 u225 u226 u227 u228 u229 u230 u231 u232 u233 u234 u235 u236 u237 u238 u239 u240 u241 u242 u243 u244 u245 u246 u247 u248 u249 u250 u251 u252 u253 u254 u255 u256 u257 u258 u259 u260 u261 u262 u263 u264 u265 u266 u267 u268 u269 u270 u271 u272 u273 u274 u275 u276 u277 u278 u279 u280 u281 u282 u283 u284 u285 u286 u287 u288 u289 u290 u291 u292 u293 u294 u295 u296 u297 u298 u299 u300 u301 u302 u303 u304 u305 u306 u307 u308 u309 u310 u311 u312 u313 u314 u315 u316 u317 u318 u319 u320 u321 u322 u323 u324 u325 u326 u327 u328 u329 u330 u331 u332 u333 u334 u335 u336 u337 u338 u339 u340 u341 u342 u343 u344 u345 u346 u347 u348 u349 u350 u351 u352 u353 u354 u355 u356 u357 u358 u359 u360 u361 u362 u363 u364 u365 u366 u367 u368 u369 u370 u371 u372 u373 u374 u375 u376 u377 u378 u379 u380 u381 u382 u383 u384 u385 u386 u387 u388 u389 u390 u391 u392 u393 u394 u395 u396 u397 u398 u399 u400 u401 u402 u403 u404 u405 u406 u407 u408 u409 u410 u411 u412 : Value)
    (hF : F.answers w.tape) (hn8 : n ≤ 8) (hl : l ≤ n) (hv : v ≤ n)
    (hT : Goes x G n l v t r dn st cr)
    (hLay : Lay w.heap.size n N D S C R) (hNet : NetAt x n N D S C R dn st cr) (hb : Below w.heap.size w x) (hNodes : NodesAt x G l X r)
    (hBN : Row x BN l (fun i => .pointer (some ⟨X i, 0, none⟩))) (hBR : Row x BR l (fun i => .pointer (r i))) (hDC : Inv5 x DC n (n + 1) dn)
    (h2 : ne ≤ 1048576) (hes : es.length = ne) (hents : Ents w w.heap.size ae es) (hnil : ae = none → ne = 0) (hlen : ∀ i, i < ne → (entAt es i).2.length ≤ 1048576) (hz : ∀ i, i < ne → (entAt es i).1 = true → (entAt es i).2 = []) :
    Code.wp Ybaz.prog (seqAt 56 (Ybaz.f3.body.getD .skip)).1 (Exit.then K (bodyPost Ybaz.prog Ybaz.f3 (Fin0 w))) ⟨#[u0, u1, u2, u3, u4, u5, .int .u8 kind, .int .i64 frm, .int .i64 mto, .int .i64 decided, .slice ae ne ce, u11, u12, u13, u14, u15, u16, u17, u18, u19, u20, u21, u22, u23, u24, u25, u26, .int .i64 l, u28, .pointer (some ⟨N, 0, none⟩), u30, u31, u32, u33, .int .i64 v, .int .i64 t, u36, .slice (some ⟨G, 0, none⟩) l l, u38, .slice (some ⟨BN, 0, none⟩) l l, .slice (some ⟨BR, 0, none⟩) l l, u41, .slice (some ⟨DC, 0, none⟩) (n + 1) (n + 1), u43, u44, u45, u46, u47, u48, u49, u50, u51, u52, u53, u54, u55, u56, u57, u58, u59, u60, u61, u62, u63, u64, u65, u66, u67, u68, u69, u70, u71, u72, u73, u74, u75, u76, u77, u78, u79, u80, u81, u82, u83, u84, u85, u86, u87, u88, u89, u90, u91, u92, u93, u94, u95, u96, u97, u98, u99, u100, u101, u102, u103, u104, u105, u106, u107, u108, u109, u110, u111, u112, u113, u114, u115, u116, u117, u118, u119, u120, u121, u122, u123, u124, u125, u126, u127, u128, u129, u130, u131, u132, u133, u134, u135, u136, u137, u138, u139, u140, u141, u142, u143, u144, u145, u146, u147, u148, u149, u150, u151, u152, u153, u154, u155, u156, u157, u158, u159, u160, u161, u162, u163, u164, u165, u166, u167, u168, u169, u170, u171, u172, u173, u174, u175, u176, u177, u178, u179, u180, u181, u182, u183, u184, u185, u186, u187, u188, u189, u190, u191, u192, u193, u194, u195, u196, u197, u198, u199, u200, u201, u202, u203, u204, u205, u206, u207, u208, u209, u210, u211, u212, u213, u214, u215, u216, u217, u218, u219, u220, u221, u222, u223, u224, u225, u226, u227, u228, u229, u230, u231, u232, u233, u234, u235, u236, u237, u238, u239, u240, u241, u242, u243, u244, u245, u246, u247, u248, u249, u250, u251, u252, u253, u254, u255, u256, u257, u258, u259, u260, u261, u262, u263, u264, u265, u266, u267, u268, u269, u270, u271, u272, u273, u274, u275, u276, u277, u278, u279, u280, u281, u282, u283, u284, u285, u286, u287, u288, u289, u290, u291, u292, u293, u294, u295, u296, u297, u298, u299, u300, u301, u302, u303, u304, u305, u306, u307, u308, u309, u310, u311, u312, u313, u314, u315, u316, u317, u318, u319, u320, u321, u322, u323, u324, u325, u326, u327, u328, u329, u330, u331, u332, u333, u334, u335, u336, u337, u338, u339, u340, u341, u342, u343, u344, u345, u346, u347, u348, u349, u350, u351, u352, u353, u354, u355, u356, u357, u358, u359, u360, u361, u362, u363, u364, u365, u366, u367, u368, u369, u370, u371, u372, u373, u374, u375, u376, u377, u378, u379, u380, u381, u382, u383, u384, u385, u386, u387, u388, u389, u390, u391, u392, u393, u394, u395, u396, u397, u398, u399, u400, u401, u402, u403, u404, u405, u406, u407, u408, u409, u410, u411, u412], []⟩ x := by
  conv => arg 2; whnf
  conv at hK => enter [a, y, 1, 2]; whnf
  obtain ⟨i4, hi4, h40, h41, h42⟩ := info_parts Ybaz.info4
  have hx1 := hNet.below (below_one x (.cells #[] 4))
  have c3 := hx1.c3
  have hsrc3 := newsOf_src hx1.stR
  have hlit3 := World.ownsRow_lit (base := x.heap.size) (e := 4) (size := 1) x #[] 0 (Nat.le_refl _) (by unfold maxLen; omega) rfl
  clear hx1
  go_wp2_with (at_builtin; refine wpList_append_own _ rfl (.tmp 298) (.tmp 302) 29 rfl x.heap.size 4 i4 (.bool false) 1 1 Ybaz.underlying29 hi4 h40 h41 h42 rfl (by decide) _ _ _ rfl hlit3 ⟨S, 0, none⟩ (n + 1) (n + 1) (newsOf st (n + 1)) rfl (by rw [newsOf_length, Nat.mul_one]) hsrc3 (newsOf_one _ _) (by unfold maxLen; omega) (by omega) (by simp) ?_)
  intro v3 w3 hown3 hgrow3 hnil3
  have hb3 : Below x.heap.size x w3 := (below_one x _).grown hgrow3 (by simp) (by intro q hq; simp [Value.ownBlock] at hq; omega)
  have hE3 : BoolsIs w3 w.heap.size v3 (n + 1) st := bools_of_owned (base := x.heap.size) (by have := hb.size; have := hNet.stR.lt (by omega); have := hLay.rS 0 (by omega); have := hLay.nR 0 (by omega); have := hLay.dN; have := hLay.bD; omega) (by simpa using hown3) (fun h0 => hnil3 h0)
  have hE3' := hE3
  obtain ⟨g3, x3, _, hv3, hrow3⟩ := hE3'
  clear hown3 hgrow3 hnil3 hlit3 hsrc3 c3
  subst hv3
  have hNet3 := hNet.below hb3
  have hx1 := hNet3.below (below_one w3 (.cells #[] 4))
  have c4 := hx1.c4
  have hsrc4 := newsOf_src hx1.crR
  have hlit4 := World.ownsRow_lit (base := w3.heap.size) (e := 4) (size := 1) w3 #[] 0 (Nat.le_refl _) (by unfold maxLen; omega) rfl
  clear hx1
  go_wp2_with (at_builtin; refine wpList_append_own _ rfl (.tmp 304) (.tmp 308) 29 rfl w3.heap.size 4 i4 (.bool false) 1 1 Ybaz.underlying29 hi4 h40 h41 h42 rfl (by decide) _ _ _ rfl hlit4 ⟨C, 0, none⟩ (n + 1) (n + 1) (newsOf cr (n + 1)) rfl (by rw [newsOf_length, Nat.mul_one]) hsrc4 (newsOf_one _ _) (by unfold maxLen; omega) (by omega) (by simp) ?_)
  intro v4 w4 hown4 hgrow4 hnil4
  have hb4 : Below w3.heap.size w3 w4 := (below_one w3 _).grown hgrow4 (by simp) (by intro q hq; simp [Value.ownBlock] at hq; omega)
  have hE4 : BoolsIs w4 w.heap.size v4 (n + 1) cr := bools_of_owned (base := w3.heap.size) (by have := hb3.size; have := hb.size; have := hNet.stR.lt (by omega); have := hLay.rS 0 (by omega); have := hLay.nR 0 (by omega); have := hLay.dN; have := hLay.bD; omega) (by simpa using hown4) (fun h0 => hnil4 h0)
  have hE4' := hE4
  obtain ⟨g4, x4, _, hv4, hrow4⟩ := hE4'
  clear hown4 hgrow4 hnil4 hlit4 hsrc4 c4
  subst hv4
  have hbx4 : Below x.heap.size x w4 := Below.comp hb3 hb4
  have hbw4 : Below w.heap.size w w4 := Below.comp hb hbx4
  go_wp2_with fail
  refine (clone_any ae ne ce w.heap.size es w4 hes h2 hnil hlen hz (hents.below hbw4)).mono ?_
  rintro e w5 ⟨a5, c5, G5, rfl, hn5, hE5, hb5⟩
  have hbx5 : Below x.heap.size x w5 := Below.comp hbx4 hb5
  clear hi4 h40 h41 h42
  go_upto_region 59 with fail
  have hR3 : Row w5 g3 (n + 1) (fun i => .bool (st i)) := (hrow3.below hb4).below hb5
  have hR4 : Row w5 g4 (n + 1) (fun i => .bool (cr i)) := hrow4.below hb5
  refine tail59 F kind frm mto decided ae a5 ne ce c5 n l v t N D S C G BN BR DC g3 x3 g4 x4 G5 R X r dn st cr es w w5 _ ?h1 _ _ _ _ _ _ _ _ _ _ _ _ _ _ _ _ _ _ _ _ _ _ _ _ _ _ _ _ _ _ _ _ _ _ _ _ _ _ _ _ _ _ _ _ _ _ _ _ _ _ _ _ _ _ _ _ _ _ _ _ _ _ _ _ _ _ _ _ _ _ _ _ _ _ _ _ _ _ _ _ _ _ _ _ _ _ _ _ _ _ _ _ _ _ _ _ _ _ _ _ _ _ _ _ _ _ _ _ _ _ _ _ _ _ _ _ _ _ _ _ _ _ _ _ _ _ _ _ _ _ _ _ _ _ _ _ _ _ _ _ _ _ _ _ _ _ _ _ _ _ _ _ _ _ _ _ _ _ _ _ _ _ _ _ _ _ _ _ _ _ _ _ _ _ _ _ _ _ _ _ _ _ _ _ _ _ _ _ _ _ _ _ _ _ _ _ _ _ _ _ _ _ _ _ _ _ _ _ _ _ _ _ _ _ _ _ _ _ _ _ _ _ _ _ _ _ _ _ _ _ _ _ _ _ _ _ _ _ _ _ _ _ _ _ _ _ _ _ _ _ _ _ _ _ _ _ _ _ _ _ _ _ _ _ _ _ _ _ _ _ _ _ _ _ _ _ _ _ _ _ _ _ _ _ _ _ _ _ _ _ _ _ _ _ _ _ _ _ _ _ _ _ _ _ _ _ _ _ _ _ _ _ _ _ _ _ _ _ _ _ _ _ _ _ _ _ _ _ _ _ _ _ _ _ _ _ _ _ _ _ _ _ _ _ _ _ _ _ _ _ _ _ _ _ _ _ _ _ _ _ _ _ _ _ _ _ _ _ _ _ _ _ _ _ _ _ _ _ _ _ _ _ _ _ _ _ _ _ _ _ _ _ _ _ _ _ _ hF hn8 hl hv (hT.below hbx5) (hNet.below hbx5) (Below.comp hb hbx5) (hNodes.below hbx5) (hBN.below hbx5) (hBR.below hbx5) (hDC.below hbx5) hR3 hR4 h2 hes (hents.below (Below.comp hb hbx5)) hn5 hE5
  case h1 => assumption

end Go.Proofs.YbulkehoyGreatFmt
