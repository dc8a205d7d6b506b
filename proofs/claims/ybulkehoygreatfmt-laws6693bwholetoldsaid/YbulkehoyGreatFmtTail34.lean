/-
  The law from region 34 on.
-/
import Derived.Test.YbulkehoyGreatFmtTail
import Derived.Test.YbulkehoyGreatFmtNodes
import Derived.Test.YbulkehoyGreatFmtTail42
namespace Go.Proofs.YbulkehoyGreatFmt
set_option linter.unusedVariables false
open Go.RowKit Go.Extern.Stop Go.Stop Go.Extern

set_option maxRecDepth 100000 in
set_option maxHeartbeats 4000000 in
theorem tail34 (F : Interp) (kind frm mto decided : Int) (ae : Option Addr) (ne ce n l v t N D S C : Nat) (tg : Bool) (R : Nat → Nat) (dn : Nat → Nat → Bool) (st cr : Nat → Bool) (es : List (Bool × List Int)) (w x : World) (K : Act → World → Prop) (hK : ∀ a y, Code.wp Ybaz.prog (seqAt 34 (Ybaz.f3.body.getD .skip)).2 (bodyPost Ybaz.prog Ybaz.f3 (Fin0 w)) a y → K a y)
    (u0 u1 u2 u3 u4 u5 u11 u12 u13 u14 u15 u16 u17 u18 u19 u20 u21 u22 u23 u24 u25 u28 u30 u31 u32 u33 u37 u38 u39 u40 u41 u42 u43 u44 u45 u46 u47 u48 u49 u50 u51 u52 u53 u54 u55 u56 u57 u58 u59 u60 u61 u62 u63 u64 u65 u66 u67 u68 u69 u70 u71 u72 u73 u74 u75 u76 u77 u78 u79 u80 u81 u82 u83 u84 u85 u86 u87 u88 u89 u90 u91 u92 u93 u94 u95 u96 u97 u98 u99 u100 u101 u102 u103 u104 u105 u106 u107 u108 u109 u110 u111 u112 u113 u114 u115 u116 u117 u118 u119 u120 u121 u122 u123 u124 u125 u126 u127 u128 u129 u130 u131 u132 u133 u134 u135 u136 u137 u138 u139 u140 u141 u142 u143 u144 u145 u146 u147 u148 u149 u150 u151 u152 u153 u154 u155 u156 u157 u158 u159 u160 u161 u162 u163 u164 u165 u166 u167 u168 u169 u170 u171 u172 u173 u174 u175 u176 u177 u178 u179 u180 u181 u182 u183 u184 u185 u186 u187 u188 u189 u190 u191 u192 u193 u194 u195 u196 u197 u198 u199 u200 u201 u202 u203 u204 u205 u206 u207 u208 u209 u210 u211 u212 u213 u214 u215 u216 u217 u218 u219 u220 u221 u222 u223 u224 u225 u226 u227 u228 u229 u230 u231 u232 u233 u234 u235 u236 u237 u238 u239 u240 u241 u242 u243 u244 u245 u246 u247 u248 u249 u250 u251 u252 u253 u254 u255 u256 u257 u258 u259 u260 u261 u262 u263 u264 u265 u266 u267 u268 u269 u270 u271 u272 u273 u274 u275 u276 u277 u278 u279 u280 u281 u282 u283 u284 u285 u286 u287 u288 u289 u290 u291 u292 u293 u294 u295 u296 u297 u298 u299 u300 u301 u302 u303 u304 u305 u306 u307 u308 u309 u310 u311 u312 u313 u314 u315 u316 u317 u318 u319 u320 u321 u322 u323 u324 u325 u326 u327 u328 u329 u330 u331 u332 u333 u334 u335 u336 u337 u338 u339 u340 u341 u342 u343 u344 u345 u346 u347 u348 u349 u350 u351 u352 u353 u354 u355 u356 u357 u358 u359 u360 u361 u362 u363 u364 u365 u366 u367 u368 u369 u370 u371 u372 u373 u374 u375 u376 u377 u378 u379 u380 u381 u382 u383 u384 u385 u386 u387 u388 u389 u390 u391 u392 u393 u394 u395 u396 u397 u398 u399 u400 u401 u402 u403 u404 u405 u406 u407 u408 u409 u410 u411 u412 : Value)
    (hF : F.answers w.tape) (hn1 : 1 ≤ n) (hn8 : n ≤ 8) (hl : l ≤ n) (hv : v ≤ n) (ht : t ≤ n + 1)
    (htg : tg = true → 1 ≤ t ∧ t ≤ l ∧ dn v t = false ∧ st t = true ∧ cr t = false) (htf : tg = false → t ≤ l → (!dn v t && (st t && !cr t)) = false)
    (hLay : Lay w.heap.size n N D S C R) (hNet : NetAt x n N D S C R dn st cr) (hb : Below w.heap.size w x)
    (h2 : ne ≤ 1048576) (hes : es.length = ne) (hents : Ents w w.heap.size ae es) (hnil : ae = none → ne = 0) (hlen : ∀ i, i < ne → (entAt es i).2.length ≤ 1048576) (hz : ∀ i, i < ne → (entAt es i).1 = true → (entAt es i).2 = []) :
    Code.wp Ybaz.prog (seqAt 34 (Ybaz.f3.body.getD .skip)).1 (Exit.then K (bodyPost Ybaz.prog Ybaz.f3 (Fin0 w))) ⟨#[u0, u1, u2, u3, u4, u5, .int .u8 kind, .int .i64 frm, .int .i64 mto, .int .i64 decided, .slice ae ne ce, u11, u12, u13, u14, u15, u16, u17, u18, u19, u20, u21, u22, u23, u24, u25, .int .i64 n, .int .i64 l, u28, .pointer (some ⟨N, 0, none⟩), u30, u31, u32, u33, .int .i64 v, .int .i64 t, .bool tg, u37, u38, u39, u40, u41, u42, u43, u44, u45, u46, u47, u48, u49, u50, u51, u52, u53, u54, u55, u56, u57, u58, u59, u60, u61, u62, u63, u64, u65, u66, u67, u68, u69, u70, u71, u72, u73, u74, u75, u76, u77, u78, u79, u80, u81, u82, u83, u84, u85, u86, u87, u88, u89, u90, u91, u92, u93, u94, u95, u96, u97, u98, u99, u100, u101, u102, u103, u104, u105, u106, u107, u108, u109, u110, u111, u112, u113, u114, u115, u116, u117, u118, u119, u120, u121, u122, u123, u124, u125, u126, u127, u128, u129, u130, u131, u132, u133, u134, u135, u136, u137, u138, u139, u140, u141, u142, u143, u144, u145, u146, u147, u148, u149, u150, u151, u152, u153, u154, u155, u156, u157, u158, u159, u160, u161, u162, u163, u164, u165, u166, u167, u168, u169, u170, u171, u172, u173, u174, u175, u176, u177, u178, u179, u180, u181, u182, u183, u184, u185, u186, u187, u188, u189, u190, u191, u192, u193, u194, u195, u196, u197, u198, u199, u200, u201, u202, u203, u204, u205, u206, u207, u208, u209, u210, u211, u212, u213, u214, u215, u216, u217, u218, u219, u220, u221, u222, u223, u224, u225, u226, u227, u228, u229, u230, u231, u232, u233, u234, u235, u236, u237, u238, u239, u240, u241, u242, u243, u244, u245, u246, u247, u248, u249, u250, u251, u252, u253, u254, u255, u256, u257, u258, u259, u260, u261, u262, u263, u264, u265, u266, u267, u268, u269, u270, u271, u272, u273, u274, u275, u276, u277, u278, u279, u280, u281, u282, u283, u284, u285, u286, u287, u288, u289, u290, u291, u292, u293, u294, u295, u296, u297, u298, u299, u300, u301, u302, u303, u304, u305, u306, u307, u308, u309, u310, u311, u312, u313, u314, u315, u316, u317, u318, u319, u320, u321, u322, u323, u324, u325, u326, u327, u328, u329, u330, u331, u332, u333, u334, u335, u336, u337, u338, u339, u340, u341, u342, u343, u344, u345, u346, u347, u348, u349, u350, u351, u352, u353, u354, u355, u356, u357, u358, u359, u360, u361, u362, u363, u364, u365, u366, u367, u368, u369, u370, u371, u372, u373, u374, u375, u376, u377, u378, u379, u380, u381, u382, u383, u384, u385, u386, u387, u388, u389, u390, u391, u392, u393, u394, u395, u396, u397, u398, u399, u400, u401, u402, u403, u404, u405, u406, u407, u408, u409, u410, u411, u412], []⟩ x := by
  conv => arg 2; whnf
  conv at hK => enter [a, y, 1, 2]; whnf
  have mk35 := fun w => make_of Ybaz.underlying35 Ybaz.info36 rfl (by omega) l (by omega) (l : Int) rfl w
  have hI0 : Inv3 (x.alloc (.cells (madeCells #[.pointer none] l) 36)) x.heap.size l 0 tg t (fun _ => 0) (fun _ => none) := ⟨(Row.newMade x (.pointer none) l 36).congr fun i hi => by unfold nodeRow; simp, fun i hi => by omega, fun i hi => by omega⟩
  go_wp2
  go_loopw [221] (fun i wr => ∃ k : Nat, k ≤ l ∧ i = .int .i64 k ∧ Below x.heap.size x wr ∧ x.heap.size < wr.heap.size ∧ ∃ X r, Inv3 wr x.heap.size l k tg t X r) (fun i _ => l - (intOf i).toNat)
  case atStart => exact ⟨0, Nat.zero_le _, rfl, below_one _ _, by simp, _, _, hI0⟩
  case round =>
    clear hI0
    obtain ⟨k, hk, rfl, hbr, hsz, X, r, hI⟩ := hrel
    by_cases hlt : k < l
    · have hlt' : (k : Int) < (l : Int) := by omega
      have cG := hI.1.cell hlt
      have zG := hI.1.free hlt
      generalize nodeRow k X k = old at cG
      clear hents hz hlen hNet htg htf
      cases tg with
      | false =>
        go_wp2_with fail
        refine (newNode_any none 0 0 0 wr).mono ?_
        rintro e w2 ⟨rfl, hc0, hc15, hb2, hsz2⟩
        have cG2 := cell_below cG hb2
        have zG2 : w2.frozen? ⟨x.heap.size, k, none⟩ = false := by rw [hb2.frozen (by exact hsz)]; exact zG
        have hN2 : NodeIs w2 x.heap.size (wr.heap.size + 1) none := ⟨by omega, hc0, hc15⟩
        have hI2 := hI.step hb2 hlt hN2 (fun h => by cases h)
        have hbr2 : Below x.heap.size x (w2.setCell ⟨x.heap.size, k, none⟩ (.pointer (some ⟨wr.heap.size + 1, 0, none⟩))) := (hbr.trans (hb2.mono hbr.size)).setCell (Nat.le_refl _) _
        clear cG zG hc0 hc15 hI hN2
        go_wp2
        go_roundw
        case rel => exact ⟨k + 1, by omega, by go_num, hbr2, by simp; omega, _, _, hI2⟩
        case measure => simp [intOf]; omega
      | true =>
        by_cases hT : k + 1 = t
        · have hTb : ((k : Int) == (t : Int) - 1) = true := by simp; omega
          go_wp2_with fail
          refine (newNode_any (some ⟨wr.heap.size, 0, none⟩) 0 0 0 _).mono ?_
          rintro e w2 ⟨rfl, hc0, hc15, hb2, hsz2⟩
          have hb3 := Below.comp (below_one wr _) hb2
          have cG2 := cell_below cG hb3
          have zG2 : w2.frozen? ⟨x.heap.size, k, none⟩ = false := by rw [hb3.frozen (by exact hsz)]; exact zG
          have cz : w2.cell? ⟨wr.heap.size, 0, none⟩ = some (.int .i64 0) := cell_below (cellAtNew wr _ _ 0 rfl rfl) hb2
          rw [sizeAlloc] at hc0 hc15 hsz2 ⊢
          have hN2 : NodeIs w2 x.heap.size (wr.heap.size + 1 + 1) (some ⟨wr.heap.size, 0, none⟩) := ⟨by omega, hc0, hc15⟩
          have hI2 := hI.step hb3 hlt hN2 (fun _ _ => ⟨_, hsz, rfl, cz⟩)
          have hbr2 : Below x.heap.size x (w2.setCell ⟨x.heap.size, k, none⟩ (.pointer (some ⟨wr.heap.size + 1 + 1, 0, none⟩))) := (hbr.trans (hb3.mono hbr.size)).setCell (Nat.le_refl _) _
          clear cG zG hc0 hc15 hI hN2 hb2 hb3 cz
          go_wp2
          go_roundw
          case rel => exact ⟨k + 1, by omega, by go_num, hbr2, by simp; omega, _, _, hI2⟩
          case measure => simp [intOf]; omega
        · have hTb : ((k : Int) == (t : Int) - 1) = false := by simp; omega
          go_wp2_with fail
          refine (newNode_any none 0 0 0 wr).mono ?_
          rintro e w2 ⟨rfl, hc0, hc15, hb2, hsz2⟩
          have cG2 := cell_below cG hb2
          have zG2 : w2.frozen? ⟨x.heap.size, k, none⟩ = false := by rw [hb2.frozen (by exact hsz)]; exact zG
          have hN2 : NodeIs w2 x.heap.size (wr.heap.size + 1) none := ⟨by omega, hc0, hc15⟩
          have hI2 := hI.step hb2 hlt hN2 (fun _ h => absurd h hT)
          have hbr2 : Below x.heap.size x (w2.setCell ⟨x.heap.size, k, none⟩ (.pointer (some ⟨wr.heap.size + 1, 0, none⟩))) := (hbr.trans (hb2.mono hbr.size)).setCell (Nat.le_refl _) _
          clear cG zG hc0 hc15 hI hN2
          go_wp2
          go_roundw
          case rel => exact ⟨k + 1, by omega, by go_num, hbr2, by simp; omega, _, _, hI2⟩
          case measure => simp [intOf]; omega
    · obtain rfl : k = l := by omega
      have hNodes := hI.all
      have hG : Goes wr x.heap.size n k v t r dn st cr := by
        by_cases hg : tg = true
        · obtain ⟨p1, p2, p3, p4, p5⟩ := htg hg
          obtain ⟨q, rfl⟩ : ∃ q, t = q + 1 := ⟨t - 1, by omega⟩
          exact .inl ⟨q, rfl, p2, p3, p4, p5, hI.2.2 q (by omega) hg rfl⟩
        · by_cases hlt2 : k < t
          · exact .inr (.inl hlt2)
          · exact .inr (.inr ⟨by omega, htf (by simpa using hg) (by omega)⟩)
      clear hI mk35
      go_upto_region 42 with fail
      refine tail42 F kind frm mto decided ae ne ce n k v t N D S C x.heap.size R X r dn st cr es w wr _ ?h1 _ _ _ _ _ _ _ _ _ _ _ _ _ _ _ _ _ _ _ _ _ _ _ _ _ _ _ _ _ _ _ _ _ _ _ _ _ _ _ _ _ _ _ _ _ _ _ _ _ _ _ _ _ _ _ _ _ _ _ _ _ _ _ _ _ _ _ _ _ _ _ _ _ _ _ _ _ _ _ _ _ _ _ _ _ _ _ _ _ _ _ _ _ _ _ _ _ _ _ _ _ _ _ _ _ _ _ _ _ _ _ _ _ _ _ _ _ _ _ _ _ _ _ _ _ _ _ _ _ _ _ _ _ _ _ _ _ _ _ _ _ _ _ _ _ _ _ _ _ _ _ _ _ _ _ _ _ _ _ _ _ _ _ _ _ _ _ _ _ _ _ _ _ _ _ _ _ _ _ _ _ _ _ _ _ _ _ _ _ _ _ _ _ _ _ _ _ _ _ _ _ _ _ _ _ _ _ _ _ _ _ _ _ _ _ _ _ _ _ _ _ _ _ _ _ _ _ _ _ _ _ _ _ _ _ _ _ _ _ _ _ _ _ _ _ _ _ _ _ _ _ _ _ _ _ _ _ _ _ _ _ _ _ _ _ _ _ _ _ _ _ _ _ _ _ _ _ _ _ _ _ _ _ _ _ _ _ _ _ _ _ _ _ _ _ _ _ _ _ _ _ _ _ _ _ _ _ _ _ _ _ _ _ _ _ _ _ _ _ _ _ _ _ _ _ _ _ _ _ _ _ _ _ _ _ _ _ _ _ _ _ _ _ _ _ _ _ _ _ _ _ _ _ _ _ _ _ _ _ _ _ _ _ _ _ _ _ _ _ _ _ _ _ _ _ _ _ _ _ _ _ _ _ _ _ _ _ _ _ _ _ _ _ _ _ _ _ _ _ _ _ _ _ hF hn8 hl hv hG hLay (hNet.below hbr) (Below.comp hb hbr) hNodes h2 hes hents hnil hlen hz
      case h1 => assumption

end Go.Proofs.YbulkehoyGreatFmt
