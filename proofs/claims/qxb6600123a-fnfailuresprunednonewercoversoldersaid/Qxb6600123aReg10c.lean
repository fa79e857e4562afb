/-
  Seat b6600123a: the call of ZZAdd in a law's loop: region 37 of function 10, in whatever order.
-/
import Derived.Test.Qxb6600123aAddBase
namespace Go.Proofs.Qxb6600123a
open Go.RowKit Go.Deep
set_option linter.unusedVariables false
set_option linter.unusedSimpArgs false
attribute [local go_sem ↓] Go.wp_at_zero Go.wp_at_succ

set_option maxRecDepth 1000000 in
set_option maxHeartbeats 4000000 in
theorem reg10c (u4 u6 u7 u8 u9 u10 u11 u12 u13 u14 u15 u16 u19 u20 u21 u22 u23 u24 u25 u26 u27 u28 u29 u30 u31 u32 u33 u34 u35 u36 u37 u38 u39 u40 u41 u42 u43 u44 u45 u46 u47 u48 u49 u50 u51 u52 u53 u54 u55 u56 u57 u58 u59 u60 u61 u62 u63 u64 u65 u66 u67 u68 u69 u70 u71 u72 u73 u74 u75 u76 u77 u78 u79 u80 u81 u82 u83 u84 u85 u86 u87 u88 u89 u90 u91 u92 u93 u94 u95 u96 u97 u98 u99 u100 u101 u102 u103 u104 u105 u106 u107 u108 u109 u110 u111 u112 u113 u114 u115 u116 u117 u118 u119 u120 u121 u122 u123 u124 u125 u126 u127 u128 u129 u130 u131 u132 u133 u134 u135 u136 u137 u138 u139 u140 u141 u142 u143 u144 u145 u146 u147 u148 u149 u150 u151 u152 u153 u154 u155 u156 u157 u158 u159 u160 u161 u162 u163 u164 u165 u166 u167 u168 u169 u170 u171 u172 u173 u174 u175 u176 u177 u178 u179 u180 u181 u182 u183 u184 u185 u186 u187 u188 u189 u190 u191 u192 u193 u194 u195 u196 u197 u198 u199 u200 u201 u202 u203 u204 u205 u206 u207 u208 u209 u210 u211 u212 u213 u214 u215 u216 u217 u218 u219 u220 u221 u222 u223 u224 u225 u226 u227 u228 u229 u230 u231 u232 u233 u234 u235 u236 u237 u238 u239 u240 u241 u242 u243 u244 u245 u246 u247 u248 u249 u250 u251 u252 u253 u254 u255 u256 u257 u258 u259 u260 u261 u262 u263 u264 u265 u266 u267 u268 u269 u270 u271 u272 u273 u274 u275 u276 u277 u278 u279 u280 u281 u282 u283 u284 u285 u286 u287 u288 u289 u290 u291 u292 u293 u294 u295 u296 u297 u298 u299 u300 u301 u302 u303 u304 u305 u306 u307 u308 u309 u310 u311 u312 u313 u314 u315 u316 u317 u318 u319 u320 u321 u322 u323 u324 u325 u326 u327 u328 u329 u330 u331 u332 u333 u334 u335 u336 u337 : Value) (P gK gL i t k ik ik1 n mk cK cN cL : Nat) (aN : Option Addr) (key : ByteArray) (lim c : Int) (G : World → Prop) (wc : World) (K : Act → World → Prop) (Q0 : Exit → Act → World → Prop)
    (cellk : wc.cell? ⟨gK, i, none⟩ = some (.string key)) (celll : wc.cell? ⟨gL, i, none⟩ = some (.int .u64 lim))
    (hcall : Calls Try.prog 32 #[.pointer (some ⟨P, 0, none⟩), .string key, .int .i64 (t : Nat), .slice (if cN = ik then aN else Option.map (fun x => x.add ik) aN) k (cN - ik), .int .u64 lim] wc.drew fun e w' => e = .returned (.int .i64 c) ∧ G w')
    (hGS : ∀ w, G w → w.cell? ⟨gK, i, none⟩ = some (.string key) ∧ w.cell? ⟨gL, i, none⟩ = some (.int .u64 lim)) (hin : i < n) (hj1 : ik1 ≤ ik + k) (hj2 : ik + k ≤ ik1) (hjk : ik1 ≤ cN) (hj : i ≤ 65536)
    (hw2 : IntKind.i64.wrap ((i : Int) * (k : Int)) = (ik : Int)) (hw3 : IntKind.i64.wrap (((i : Int) + 1) * (k : Int)) = (ik1 : Int)) (hw4 : IntKind.i64.wrap ((i : Int) + 1) = (i : Int) + 1)
    (hK : ∀ (v138 v139 v140 v141 v142 v143 v144 v145 v146 v147 v148 v149 v150 v151 v152 v153 v154 v155 v156 v157 : Value) (w' : World), G w' → K ⟨#[.slice (some ⟨gK, 0, none⟩) n cK, .slice aN mk cN, .slice (some ⟨gL, 0, none⟩) n cL, .int .i64 (k : Nat), u4, .int .i64 (t : Nat), u6, u7, u8, u9, u10, u11, u12, u13, u14, u15, u16, .pointer (some ⟨P, 0, none⟩), .int .i64 (i : Nat), u19, u20, u21, u22, u23, u24, u25, u26, u27, u28, u29, u30, u31, u32, u33, u34, u35, u36, u37, u38, u39, u40, u41, u42, u43, u44, u45, u46, u47, u48, u49, u50, u51, u52, u53, u54, u55, u56, u57, u58, u59, u60, u61, u62, u63, u64, u65, u66, u67, u68, u69, u70, u71, u72, u73, u74, u75, u76, u77, u78, u79, u80, u81, u82, u83, u84, u85, u86, u87, u88, u89, u90, u91, u92, u93, u94, u95, u96, u97, u98, u99, u100, u101, u102, u103, u104, u105, u106, u107, u108, u109, u110, u111, u112, u113, u114, u115, u116, u117, u118, u119, u120, u121, u122, u123, u124, u125, u126, u127, u128, u129, u130, u131, u132, u133, u134, u135, u136, u137, v138, v139, v140, v141, v142, v143, v144, v145, v146, v147, v148, v149, v150, v151, v152, v153, v154, v155, v156, v157, u158, u159, u160, u161, u162, u163, u164, u165, u166, u167, u168, u169, u170, u171, u172, u173, u174, u175, u176, u177, u178, u179, u180, u181, u182, u183, u184, u185, u186, u187, u188, u189, u190, u191, u192, u193, u194, u195, u196, u197, u198, u199, u200, u201, u202, u203, u204, u205, u206, u207, u208, u209, u210, u211, u212, u213, u214, u215, u216, u217, u218, u219, u220, u221, u222, u223, u224, u225, u226, u227, u228, u229, u230, u231, u232, u233, u234, u235, u236, u237, u238, u239, u240, u241, u242, u243, u244, u245, u246, u247, u248, u249, u250, u251, u252, u253, u254, u255, u256, u257, u258, u259, u260, u261, u262, u263, u264, u265, u266, u267, u268, u269, u270, u271, u272, u273, u274, u275, u276, u277, u278, u279, u280, u281, u282, u283, u284, u285, u286, u287, u288, u289, u290, u291, u292, u293, u294, u295, u296, u297, u298, u299, u300, u301, u302, u303, u304, u305, u306, u307, u308, u309, u310, u311, u312, u313, u314, u315, u316, u317, u318, u319, u320, u321, u322, u323, u324, u325, u326, u327, u328, u329, u330, u331, u332, u333, u334, u335, u336, u337], []⟩ w') :
    Code.wp Try.prog ((Try.f10.body.bind (findReg 37)).getD .skip) (Exit.then K Q0) ⟨#[.slice (some ⟨gK, 0, none⟩) n cK, .slice aN mk cN, .slice (some ⟨gL, 0, none⟩) n cL, .int .i64 (k : Nat), u4, .int .i64 (t : Nat), u6, u7, u8, u9, u10, u11, u12, u13, u14, u15, u16, .pointer (some ⟨P, 0, none⟩), .int .i64 (i : Nat), u19, u20, u21, u22, u23, u24, u25, u26, u27, u28, u29, u30, u31, u32, u33, u34, u35, u36, u37, u38, u39, u40, u41, u42, u43, u44, u45, u46, u47, u48, u49, u50, u51, u52, u53, u54, u55, u56, u57, u58, u59, u60, u61, u62, u63, u64, u65, u66, u67, u68, u69, u70, u71, u72, u73, u74, u75, u76, u77, u78, u79, u80, u81, u82, u83, u84, u85, u86, u87, u88, u89, u90, u91, u92, u93, u94, u95, u96, u97, u98, u99, u100, u101, u102, u103, u104, u105, u106, u107, u108, u109, u110, u111, u112, u113, u114, u115, u116, u117, u118, u119, u120, u121, u122, u123, u124, u125, u126, u127, u128, u129, u130, u131, u132, u133, u134, u135, u136, u137, u138, u139, u140, u141, u142, u143, u144, u145, u146, u147, u148, u149, u150, u151, u152, u153, u154, u155, u156, u157, u158, u159, u160, u161, u162, u163, u164, u165, u166, u167, u168, u169, u170, u171, u172, u173, u174, u175, u176, u177, u178, u179, u180, u181, u182, u183, u184, u185, u186, u187, u188, u189, u190, u191, u192, u193, u194, u195, u196, u197, u198, u199, u200, u201, u202, u203, u204, u205, u206, u207, u208, u209, u210, u211, u212, u213, u214, u215, u216, u217, u218, u219, u220, u221, u222, u223, u224, u225, u226, u227, u228, u229, u230, u231, u232, u233, u234, u235, u236, u237, u238, u239, u240, u241, u242, u243, u244, u245, u246, u247, u248, u249, u250, u251, u252, u253, u254, u255, u256, u257, u258, u259, u260, u261, u262, u263, u264, u265, u266, u267, u268, u269, u270, u271, u272, u273, u274, u275, u276, u277, u278, u279, u280, u281, u282, u283, u284, u285, u286, u287, u288, u289, u290, u291, u292, u293, u294, u295, u296, u297, u298, u299, u300, u301, u302, u303, u304, u305, u306, u307, u308, u309, u310, u311, u312, u313, u314, u315, u316, u317, u318, u319, u320, u321, u322, u323, u324, u325, u326, u327, u328, u329, u330, u331, u332, u333, u334, u335, u336, u337], []⟩ wc := by
  conv => arg 2; whnf
  have HK : Hid _ := hK
  have HC : Hid _ := hcall
  clear hK hcall
  have i1 : (i : Int) < (n : Int) := by omega
  have i2 : (ik : Int) ≤ (ik1 : Int) := by omega
  have i3 : (ik1 : Int) ≤ (cN : Int) := by omega
  have i5 : (0 : Int) ≤ (ik : Int) := by omega
  have hjd : ik1 - ik = k := by omega
  refine wp_region_noPanic ?_
  refine anyT_start (S := fun w' => w'.cell? ⟨gK, i, none⟩ = some (.string key) ∧ w'.cell? ⟨gL, i, none⟩ = some (.int .u64 lim)) (T := 99) (by kernel_rfl) ?_
  have hHeld : wc.drew.cell? ⟨gK, i, none⟩ = some (.string key) ∧ wc.drew.cell? ⟨gL, i, none⟩ = some (.int .u64 lim) := ⟨cellk, celll⟩
  refine anyT_take (i := 0) (oi := ?_) (v := ?_) ?_ (by kernel_rfl) (by kernel_rfl) (by kernel_rfl) (by kernel_rfl) (fun _ _ _ h => h) (Or.inl ⟨?_, ?_⟩) hHeld ?_
  rotate_left 2
  · simp only [List.getElem?_toArray, List.getElem?_cons_succ, List.getElem?_cons_zero]; rfl
  · rfl
  · intro w0 hSw; (try dsimp only at hSw); obtain ⟨hS1, hS2⟩ := hSw; go_simp <;> with_reducible rfl
  (try simp only [Act.put, List.setIfInBounds_toArray, List.set_cons_zero, List.set_cons_succ])
  refine anyT_take (i := 1) (oi := ?_) (v := ?_) ?_ (by kernel_rfl) (by kernel_rfl) (by kernel_rfl) (by kernel_rfl) (fun _ _ _ h => h) (Or.inl ⟨?_, ?_⟩) hHeld ?_
  rotate_left 2
  · simp only [List.getElem?_toArray, List.getElem?_cons_succ, List.getElem?_cons_zero]; rfl
  · rfl
  · intro w0 hSw; (try dsimp only at hSw); obtain ⟨hS1, hS2⟩ := hSw; go_simp <;> with_reducible rfl
  (try simp only [Act.put, List.setIfInBounds_toArray, List.set_cons_zero, List.set_cons_succ])
  refine anyT_take (i := 2) (oi := ?_) (v := ?_) ?_ (by kernel_rfl) (by kernel_rfl) (by kernel_rfl) (by kernel_rfl) (fun _ _ _ h => h) (Or.inl ⟨?_, ?_⟩) hHeld ?_
  rotate_left 2
  · simp only [List.getElem?_toArray, List.getElem?_cons_succ, List.getElem?_cons_zero]; rfl
  · rfl
  · intro w0 hSw; (try dsimp only at hSw); obtain ⟨hS1, hS2⟩ := hSw; go_simp <;> with_reducible rfl
  (try simp only [Act.put, List.setIfInBounds_toArray, List.set_cons_zero, List.set_cons_succ])
  refine anyT_take (i := 3) (oi := ?_) (v := ?_) ?_ (by kernel_rfl) (by kernel_rfl) (by kernel_rfl) (by kernel_rfl) (fun _ _ _ h => h) (Or.inl ⟨?_, ?_⟩) hHeld ?_
  rotate_left 2
  · simp only [List.getElem?_toArray, List.getElem?_cons_succ, List.getElem?_cons_zero]; rfl
  · rfl
  · intro w0 hSw; (try dsimp only at hSw); obtain ⟨hS1, hS2⟩ := hSw; go_simp <;> with_reducible rfl
  (try simp only [Act.put, List.setIfInBounds_toArray, List.set_cons_zero, List.set_cons_succ])
  refine anyT_take (i := 4) (oi := ?_) (v := ?_) ?_ (by kernel_rfl) (by kernel_rfl) (by kernel_rfl) (by kernel_rfl) (fun _ _ _ h => h) (Or.inl ⟨?_, ?_⟩) hHeld ?_
  rotate_left 2
  · simp only [List.getElem?_toArray, List.getElem?_cons_succ, List.getElem?_cons_zero]; rfl
  · rfl
  · intro w0 hSw; (try dsimp only at hSw); obtain ⟨hS1, hS2⟩ := hSw; go_simp <;> with_reducible rfl
  (try simp only [Act.put, List.setIfInBounds_toArray, List.set_cons_zero, List.set_cons_succ])
  refine anyT_take (i := 5) (oi := ?_) (v := ?_) ?_ (by kernel_rfl) (by kernel_rfl) (by kernel_rfl) (by kernel_rfl) (fun _ _ _ h => h) (Or.inl ⟨?_, ?_⟩) hHeld ?_
  rotate_left 2
  · simp only [List.getElem?_toArray, List.getElem?_cons_succ, List.getElem?_cons_zero]; rfl
  · rfl
  · intro w0 hSw; (try dsimp only at hSw); obtain ⟨hS1, hS2⟩ := hSw; go_simp <;> with_reducible rfl
  (try simp only [Act.put, List.setIfInBounds_toArray, List.set_cons_zero, List.set_cons_succ])
  refine anyT_take (i := 6) (oi := ?_) (v := ?_) ?_ (by kernel_rfl) (by kernel_rfl) (by kernel_rfl) (by kernel_rfl) (fun _ _ _ h => h) (Or.inl ⟨?_, ?_⟩) hHeld ?_
  rotate_left 2
  · simp only [List.getElem?_toArray, List.getElem?_cons_succ, List.getElem?_cons_zero]; rfl
  · rfl
  · intro w0 hSw; (try dsimp only at hSw); obtain ⟨hS1, hS2⟩ := hSw; go_simp <;> with_reducible rfl
  (try simp only [Act.put, List.setIfInBounds_toArray, List.set_cons_zero, List.set_cons_succ])
  refine anyT_take (i := 7) (oi := ?_) (v := ?_) ?_ (by kernel_rfl) (by kernel_rfl) (by kernel_rfl) (by kernel_rfl) (fun _ _ _ h => h) (Or.inl ⟨?_, ?_⟩) hHeld ?_
  rotate_left 2
  · simp only [List.getElem?_toArray, List.getElem?_cons_succ, List.getElem?_cons_zero]; rfl
  · rfl
  · intro w0 hSw; (try dsimp only at hSw); obtain ⟨hS1, hS2⟩ := hSw; go_simp <;> with_reducible rfl
  (try simp only [Act.put, List.setIfInBounds_toArray, List.set_cons_zero, List.set_cons_succ])
  refine anyT_take (i := 8) (oi := ?_) (v := ?_) ?_ (by kernel_rfl) (by kernel_rfl) (by kernel_rfl) (by kernel_rfl) (fun _ _ _ h => h) (Or.inl ⟨?_, ?_⟩) hHeld ?_
  rotate_left 2
  · simp only [List.getElem?_toArray, List.getElem?_cons_succ, List.getElem?_cons_zero]; rfl
  · rfl
  · intro w0 hSw; (try dsimp only at hSw); obtain ⟨hS1, hS2⟩ := hSw; go_simp <;> with_reducible rfl
  (try simp only [Act.put, List.setIfInBounds_toArray, List.set_cons_zero, List.set_cons_succ])
  refine anyT_take (i := 9) (oi := ?_) (v := ?_) ?_ (by kernel_rfl) (by kernel_rfl) (by kernel_rfl) (by kernel_rfl) (fun _ _ _ h => h) (Or.inl ⟨?_, ?_⟩) hHeld ?_
  rotate_left 2
  · simp only [List.getElem?_toArray, List.getElem?_cons_succ, List.getElem?_cons_zero]; rfl
  · rfl
  · intro w0 hSw; (try dsimp only at hSw); obtain ⟨hS1, hS2⟩ := hSw; go_simp <;> with_reducible rfl
  (try simp only [Act.put, List.setIfInBounds_toArray, List.set_cons_zero, List.set_cons_succ])
  refine anyT_take (i := 10) (oi := ?_) (v := ?_) ?_ (by kernel_rfl) (by kernel_rfl) (by kernel_rfl) (by kernel_rfl) (fun _ _ _ h => h) (Or.inl ⟨?_, ?_⟩) hHeld ?_
  rotate_left 2
  · simp only [List.getElem?_toArray, List.getElem?_cons_succ, List.getElem?_cons_zero]; rfl
  · rfl
  · intro w0 hSw; (try dsimp only at hSw); obtain ⟨hS1, hS2⟩ := hSw; go_simp <;> with_reducible rfl
  (try simp only [Act.put, List.setIfInBounds_toArray, List.set_cons_zero, List.set_cons_succ])
  refine anyT_take (i := 11) (oi := ?_) (v := ?_) ?_ (by kernel_rfl) (by kernel_rfl) (by kernel_rfl) (by kernel_rfl) (fun _ _ _ h => h) (Or.inl ⟨?_, ?_⟩) hHeld ?_
  rotate_left 2
  · simp only [List.getElem?_toArray, List.getElem?_cons_succ, List.getElem?_cons_zero]; rfl
  · rfl
  · intro w0 hSw; (try dsimp only at hSw); obtain ⟨hS1, hS2⟩ := hSw; go_simp <;> with_reducible rfl
  (try simp only [Act.put, List.setIfInBounds_toArray, List.set_cons_zero, List.set_cons_succ])
  refine anyT_take (i := 12) (oi := ?_) (v := ?_) ?_ (by kernel_rfl) (by kernel_rfl) (by kernel_rfl) (by kernel_rfl) (fun _ _ _ h => h) (Or.inl ⟨?_, ?_⟩) hHeld ?_
  rotate_left 2
  · simp only [List.getElem?_toArray, List.getElem?_cons_succ, List.getElem?_cons_zero]; rfl
  · rfl
  · intro w0 hSw; (try dsimp only at hSw); obtain ⟨hS1, hS2⟩ := hSw; go_simp <;> with_reducible rfl
  (try simp only [Act.put, List.setIfInBounds_toArray, List.set_cons_zero, List.set_cons_succ])
  refine anyT_take (i := 13) (oi := ?_) (v := ?_) ?_ (by kernel_rfl) (by kernel_rfl) (by kernel_rfl) (by kernel_rfl) (fun _ _ _ h => h) (Or.inl ⟨?_, ?_⟩) hHeld ?_
  rotate_left 2
  · simp only [List.getElem?_toArray, List.getElem?_cons_succ, List.getElem?_cons_zero]; rfl
  · rfl
  · intro w0 hSw; (try dsimp only at hSw); obtain ⟨hS1, hS2⟩ := hSw; go_simp <;> with_reducible rfl
  (try simp only [Act.put, List.setIfInBounds_toArray, List.set_cons_zero, List.set_cons_succ])
  refine anyT_take (i := 14) (oi := ?_) (v := ?_) ?_ (by kernel_rfl) (by kernel_rfl) (by kernel_rfl) (by kernel_rfl) (fun _ _ _ h => h) (Or.inl ⟨?_, ?_⟩) hHeld ?_
  rotate_left 2
  · simp only [List.getElem?_toArray, List.getElem?_cons_succ, List.getElem?_cons_zero]; rfl
  · rfl
  · intro w0 hSw; (try dsimp only at hSw); obtain ⟨hS1, hS2⟩ := hSw; go_simp <;> with_reducible rfl
  (try simp only [Act.put, List.setIfInBounds_toArray, List.set_cons_zero, List.set_cons_succ])
  refine anyT_take (i := 15) (oi := ?_) (v := ?_) ?_ (by kernel_rfl) (by kernel_rfl) (by kernel_rfl) (by kernel_rfl) (fun _ _ _ h => h) (Or.inl ⟨?_, ?_⟩) hHeld ?_
  rotate_left 2
  · simp only [List.getElem?_toArray, List.getElem?_cons_succ, List.getElem?_cons_zero]; rfl
  · rfl
  · intro w0 hSw; (try dsimp only at hSw); obtain ⟨hS1, hS2⟩ := hSw; go_simp <;> with_reducible rfl
  (try simp only [Act.put, List.setIfInBounds_toArray, List.set_cons_zero, List.set_cons_succ])
  refine anyT_take (i := 16) (oi := ?_) (v := ?_) ?_ (by kernel_rfl) (by kernel_rfl) (by kernel_rfl) (by kernel_rfl) (fun _ _ _ h => h) (Or.inl ⟨?_, ?_⟩) hHeld ?_
  rotate_left 2
  · simp only [List.getElem?_toArray, List.getElem?_cons_succ, List.getElem?_cons_zero]; rfl
  · rfl
  · intro w0 hSw; (try dsimp only at hSw); obtain ⟨hS1, hS2⟩ := hSw; go_simp <;> with_reducible rfl
  (try simp only [Act.put, List.setIfInBounds_toArray, List.set_cons_zero, List.set_cons_succ])
  refine anyT_take (i := 17) (oi := ?_) (v := ?_) ?_ (by kernel_rfl) (by kernel_rfl) (by kernel_rfl) (by kernel_rfl) (fun _ _ _ h => h) (Or.inl ⟨?_, ?_⟩) hHeld ?_
  rotate_left 2
  · simp only [List.getElem?_toArray, List.getElem?_cons_succ, List.getElem?_cons_zero]; rfl
  · rfl
  · intro w0 hSw; (try dsimp only at hSw); obtain ⟨hS1, hS2⟩ := hSw; go_simp <;> with_reducible rfl
  (try simp only [Act.put, List.setIfInBounds_toArray, List.set_cons_zero, List.set_cons_succ])
  refine anyT_take (i := 18) (oi := ?_) (v := ?_) ?_ (by kernel_rfl) (by kernel_rfl) (by kernel_rfl) (by kernel_rfl) (fun _ _ _ h => h) (Or.inl ⟨?_, ?_⟩) hHeld ?_
  rotate_left 2
  · simp only [List.getElem?_toArray, List.getElem?_cons_succ, List.getElem?_cons_zero]; rfl
  · rfl
  · intro w0 hSw; (try dsimp only at hSw); obtain ⟨hS1, hS2⟩ := hSw; go_simp <;> with_reducible rfl
  (try simp only [Act.put, List.setIfInBounds_toArray, List.set_cons_zero, List.set_cons_succ])
  refine anyT_one (i := 19) (o := ?_) (by kernel_rfl) ?_ (fun K hK => ?_)
  rotate_left
  · simp only [List.getElem?_toArray, List.getElem?_cons_succ, List.getElem?_cons_zero]; rfl
  go_simp
  refine Calls.mono HC.out ?_
  rintro e w' ⟨rfl, hG⟩
  refine hK.out _ _ (fun _ => hGS _ hG) ?_
  clear hK K
  (try simp only [Act.put, List.setIfInBounds_toArray, List.set_cons_zero, List.set_cons_succ])
  refine anyT_done (by kernel_rfl) ?_ _
  refine NoPanic.normal ?_
  exact HK.out _ _ _ _ _ _ _ _ _ _ _ _ _ _ _ _ _ _ _ _ w' hG
end Go.Proofs.Qxb6600123a
