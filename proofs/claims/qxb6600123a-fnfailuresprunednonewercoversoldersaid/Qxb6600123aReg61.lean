/-
  Seat b6600123a: 'p < n && !(keys[p] == outKeys[e] && limits[p] == outLimits[e] && sameChunk(..))', where p < n: region 61 of function 10, in whatever order.
-/
import Derived.Test.Qxb6600123aAddBase
import Derived.Deep.QuietTactic
import Derived.BigQuiet
namespace Go.Proofs.Qxb6600123a
open Go.RowKit Go.Deep
set_option linter.unusedVariables false
set_option linter.unusedSimpArgs false
attribute [local go_sem ↓] Go.wp_at_zero Go.wp_at_succ

set_option maxRecDepth 1000000 in
set_option maxHeartbeats 4000000 in
theorem reg61 (u4 u5 u6 u7 u8 u9 u10 u11 u12 u13 u14 u16 u17 u18 u19 u20 u21 u22 u23 u27 u30 u31 u32 u33 u34 u35 u36 u37 u38 u39 u40 u41 u42 u43 u44 u45 u46 u47 u48 u49 u50 u51 u52 u53 u54 u55 u56 u57 u58 u59 u60 u61 u62 u63 u64 u65 u66 u67 u68 u69 u70 u71 u72 u73 u74 u75 u76 u77 u78 u79 u80 u81 u82 u83 u84 u85 u86 u87 u88 u89 u90 u91 u92 u93 u94 u95 u96 u97 u98 u99 u100 u101 u102 u103 u104 u105 u106 u107 u108 u109 u110 u111 u112 u113 u114 u115 u116 u117 u118 u119 u120 u121 u122 u123 u124 u125 u126 u127 u128 u129 u130 u131 u132 u133 u134 u135 u136 u137 u138 u139 u140 u141 u142 u143 u144 u145 u146 u147 u148 u149 u150 u151 u152 u153 u154 u155 u156 u157 u158 u159 u160 u161 u162 u163 u164 u165 u166 u167 u168 u169 u170 u171 u172 u173 u174 u175 u176 u177 u178 u179 u180 u181 u182 u183 u184 u185 u186 u187 u188 u189 u190 u191 u192 u193 u194 u195 u196 u197 u198 u199 u200 u201 u202 u203 u204 u205 u206 u207 u208 u209 u210 u211 u212 u213 u214 u215 u216 u217 u218 u219 u220 u221 u222 u223 u224 u225 u226 u227 u228 u229 u230 u231 u232 u233 u234 u235 u236 u237 u238 u239 u240 u241 u242 u243 u244 u245 u246 u247 u248 u249 u250 u251 u252 u253 u254 u255 u256 u257 u258 u259 u260 u261 u262 u263 u264 u265 u266 u267 u268 u269 u270 u271 u272 u273 u274 u275 u276 u277 u278 u279 u280 u281 u282 u283 u284 u285 u286 u287 u288 u289 u290 u291 u292 u293 u294 u295 u296 u297 u298 u299 u300 u301 u302 u303 u304 u305 u306 u307 u308 u309 u310 u311 u312 u313 u314 u315 u316 u317 u318 u319 u320 u321 u322 u323 u324 u325 u326 u327 u328 u329 u330 u331 u332 u333 u334 u335 u336 u337 : Value) (gK oK gL oL gO oO gM p e k n nn m mk kco nco lco cK cN : Nat) (no aN : Option Addr) (k1 k2 : ByteArray) (l1 l2 : Int) (bk bl bs : Bool) (wc : World) (K : Act → World → Prop) (Q0 : Exit → Act → World → Prop)
    (c1 : wc.cell? ⟨gK, oK + p, none⟩ = some (.string k1)) (c2 : wc.cell? ⟨gO, oO + e, none⟩ = some (.string k2)) (c3 : wc.cell? ⟨gL, oL + p, none⟩ = some (.int .u64 l1)) (c4 : wc.cell? ⟨gM, e, none⟩ = some (.int .u64 l2))
    (hk : (k1.toList == k2.toList) = bk) (hl : (l1 == l2) = bl)
    (hcall : ∀ d, Calls Try.prog 36 #[.slice no nn nco, .int .i64 (p : Nat), .slice aN mk cN, .int .i64 (e : Nat), .int .i64 (k : Nat)] (wc.drewN d) fun r w' => r = .returned (.bool bs) ∧ ∃ n, w' = (wc.drewN d).drewN n)
    (hp : p < n) (he : e < m)
    (hK : ∀ (v245 v246 v247 v248 v249 v250 v251 v252 v253 v254 v255 v256 v257 v258 v259 v260 v261 v262 v263 v264 v265 v266 v267 v268 v269 v270 v271 v272 v273 v274 v275 v276 v277 : Value) (n' : Nat), K ⟨#[.slice (some ⟨gK, oK, none⟩) n kco, .slice no nn nco, .slice (some ⟨gL, oL, none⟩) n lco, .int .i64 (k : Nat), u4, u5, u6, u7, u8, u9, u10, u11, u12, u13, u14, .int .i64 (n : Nat), u16, u17, u18, u19, u20, u21, u22, u23, .slice (some ⟨gO, oO, none⟩) m cK, .slice aN mk cN, .slice (some ⟨gM, 0, none⟩) m m, u27, .int .i64 (p : Nat), .int .i64 (e : Nat), u30, u31, u32, u33, u34, u35, u36, u37, u38, u39, u40, u41, u42, u43, u44, u45, u46, u47, u48, u49, u50, u51, u52, u53, u54, u55, u56, u57, u58, u59, u60, u61, u62, u63, u64, u65, u66, u67, u68, u69, u70, u71, u72, u73, u74, u75, u76, u77, u78, u79, u80, u81, u82, u83, u84, u85, u86, u87, u88, u89, u90, u91, u92, u93, u94, u95, u96, u97, u98, u99, u100, u101, u102, u103, u104, u105, u106, u107, u108, u109, u110, u111, u112, u113, u114, u115, u116, u117, u118, u119, u120, u121, u122, u123, u124, u125, u126, u127, u128, u129, u130, u131, u132, u133, u134, u135, u136, u137, u138, u139, u140, u141, u142, u143, u144, u145, u146, u147, u148, u149, u150, u151, u152, u153, u154, u155, u156, u157, u158, u159, u160, u161, u162, u163, u164, u165, u166, u167, u168, u169, u170, u171, u172, u173, u174, u175, u176, u177, u178, u179, u180, u181, u182, u183, u184, u185, u186, u187, u188, u189, u190, u191, u192, u193, u194, u195, u196, u197, u198, u199, u200, u201, u202, u203, u204, u205, u206, u207, u208, u209, u210, u211, u212, u213, u214, u215, u216, u217, u218, u219, u220, u221, u222, u223, u224, u225, u226, u227, u228, u229, u230, u231, u232, u233, u234, u235, u236, u237, u238, u239, u240, u241, u242, u243, u244, v245, v246, v247, v248, v249, v250, v251, v252, v253, v254, v255, v256, v257, v258, v259, v260, v261, v262, v263, v264, v265, v266, v267, v268, v269, v270, v271, v272, v273, v274, v275, v276, v277, .bool (!(bk && bl && bs)), u279, u280, u281, u282, u283, u284, u285, u286, u287, u288, u289, u290, u291, u292, u293, u294, u295, u296, u297, u298, u299, u300, u301, u302, u303, u304, u305, u306, u307, u308, u309, u310, u311, u312, u313, u314, u315, u316, u317, u318, u319, u320, u321, u322, u323, u324, u325, u326, u327, u328, u329, u330, u331, u332, u333, u334, u335, u336, u337], []⟩ (wc.drewN n')) :
    Code.wp Try.prog ((Try.f10.body.bind (findReg 61)).getD .skip) (Exit.then K Q0) ⟨#[.slice (some ⟨gK, oK, none⟩) n kco, .slice no nn nco, .slice (some ⟨gL, oL, none⟩) n lco, .int .i64 (k : Nat), u4, u5, u6, u7, u8, u9, u10, u11, u12, u13, u14, .int .i64 (n : Nat), u16, u17, u18, u19, u20, u21, u22, u23, .slice (some ⟨gO, oO, none⟩) m cK, .slice aN mk cN, .slice (some ⟨gM, 0, none⟩) m m, u27, .int .i64 (p : Nat), .int .i64 (e : Nat), u30, u31, u32, u33, u34, u35, u36, u37, u38, u39, u40, u41, u42, u43, u44, u45, u46, u47, u48, u49, u50, u51, u52, u53, u54, u55, u56, u57, u58, u59, u60, u61, u62, u63, u64, u65, u66, u67, u68, u69, u70, u71, u72, u73, u74, u75, u76, u77, u78, u79, u80, u81, u82, u83, u84, u85, u86, u87, u88, u89, u90, u91, u92, u93, u94, u95, u96, u97, u98, u99, u100, u101, u102, u103, u104, u105, u106, u107, u108, u109, u110, u111, u112, u113, u114, u115, u116, u117, u118, u119, u120, u121, u122, u123, u124, u125, u126, u127, u128, u129, u130, u131, u132, u133, u134, u135, u136, u137, u138, u139, u140, u141, u142, u143, u144, u145, u146, u147, u148, u149, u150, u151, u152, u153, u154, u155, u156, u157, u158, u159, u160, u161, u162, u163, u164, u165, u166, u167, u168, u169, u170, u171, u172, u173, u174, u175, u176, u177, u178, u179, u180, u181, u182, u183, u184, u185, u186, u187, u188, u189, u190, u191, u192, u193, u194, u195, u196, u197, u198, u199, u200, u201, u202, u203, u204, u205, u206, u207, u208, u209, u210, u211, u212, u213, u214, u215, u216, u217, u218, u219, u220, u221, u222, u223, u224, u225, u226, u227, u228, u229, u230, u231, u232, u233, u234, u235, u236, u237, u238, u239, u240, u241, u242, u243, u244, u245, u246, u247, u248, u249, u250, u251, u252, u253, u254, u255, u256, u257, u258, u259, u260, u261, u262, u263, u264, u265, u266, u267, u268, u269, u270, u271, u272, u273, u274, u275, u276, u277, u278, u279, u280, u281, u282, u283, u284, u285, u286, u287, u288, u289, u290, u291, u292, u293, u294, u295, u296, u297, u298, u299, u300, u301, u302, u303, u304, u305, u306, u307, u308, u309, u310, u311, u312, u313, u314, u315, u316, u317, u318, u319, u320, u321, u322, u323, u324, u325, u326, u327, u328, u329, u330, u331, u332, u333, u334, u335, u336, u337], []⟩ wc := by
  conv => arg 2; whnf
  have HK : Hid _ := hK
  clear hK
  have i1 : (p : Int) < (n : Int) := by omega
  have i2 : (e : Int) < (m : Int) := by omega
  have d1 : decide ((p : Int) < (n : Int)) = true := decide_eq_true i1
  have HKB : Hid ((k1.toList == k2.toList) = bk) := hk
  clear hk
  refine wp_region_quiet_lit (by kernel_rfl) (by kernel_rfl) ?_
  iterate 14 (first | go_big_quiet_step (fail) | quiet_step (fail))
  have hk := HKB.out
  rw [hk]
  clear hk HKB
  cases bk
  · repeat (any_goals (first | go_big_quiet_step (fail) | quiet_step (fail)))
    all_goals (refine wpQuiet_nil ?_; intro _ hw'; obtain ⟨nq, hw''⟩ := hw'; subst hw'')
    exact HK.out _ _ _ _ _ _ _ _ _ _ _ _ _ _ _ _ _ _ _ _ _ _ _ _ _ _ _ _ _ _ _ _ _ _
  · cases bl
    · repeat (any_goals (first | go_big_quiet_step (fail) | quiet_step (fail)))
      all_goals (refine wpQuiet_nil ?_; intro _ hw'; obtain ⟨nq, hw''⟩ := hw'; subst hw'')
      exact HK.out _ _ _ _ _ _ _ _ _ _ _ _ _ _ _ _ _ _ _ _ _ _ _ _ _ _ _ _ _ _ _ _ _ _
    · repeat (any_goals (first | go_big_quiet_step ((go_at_call 36; exact Calls.quiet_of (hcall _))) | quiet_step ((go_at_call 36; exact Calls.quiet_of (hcall _)))))
      all_goals (refine wpQuiet_nil ?_; intro _ hw'; obtain ⟨nq, hw''⟩ := hw'; subst hw'')
      exact HK.out _ _ _ _ _ _ _ _ _ _ _ _ _ _ _ _ _ _ _ _ _ _ _ _ _ _ _ _ _ _ _ _ _ _
end Go.Proofs.Qxb6600123a
