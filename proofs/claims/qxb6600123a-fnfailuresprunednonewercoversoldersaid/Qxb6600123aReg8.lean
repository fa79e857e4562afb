/-
  Seat b6600123a: 'covered, c := covers(key, need, limit, f.keys[j], tallied, f.need[j*k:(j+1)*k], f.limits[j])': region 8 of (*failures).add, in whatever order.
-/
import Derived.Test.Qxb6600123aAddBase
import Derived.Deep.QuietTactic
import Derived.BigQuiet
namespace Go.Proofs.Qxb6600123a
open Go.RowKit Go.Deep
set_option linter.unusedVariables false
set_option linter.unusedSimpArgs false
attribute [local go_sem ↓] Go.wp_at_zero Go.wp_at_succ

set_option maxRecDepth 1000000 in
set_option maxHeartbeats 4000000 in
theorem reg8 (u5 u6 u7 u8 u9 u10 u12 u14 u15 u16 u17 u18 u19 u20 u21 u22 u23 u24 u25 u26 u27 u28 u29 u30 u31 u32 u33 u34 u35 u36 u37 u38 u39 u40 u41 u42 u43 u44 u45 u46 u47 u48 u49 u50 u51 u52 u53 u54 u55 u56 u57 u58 u59 u60 u61 u62 u63 u64 u65 u66 u67 u68 u69 u70 u71 u72 u73 u74 u75 u76 u77 u78 u79 u80 u81 u82 u83 u84 u85 u86 u87 u88 u89 u90 u91 u92 u93 u94 u95 u96 u97 u98 u99 u100 u101 u102 u103 u104 u105 u106 u107 u108 u109 u110 u111 u112 u113 u114 u115 u116 u117 u118 u119 u120 u121 u122 u123 u124 u125 u126 u127 u128 u129 u130 u131 u132 u133 u134 u135 u136 u137 u138 u139 u140 u141 u142 u143 u144 u145 u146 u147 u148 u149 u150 u151 u152 u153 u154 u155 u156 u157 u158 u159 u160 u161 u162 u163 u164 u165 u166 u167 u168 u169 u170 u171 u172 u173 u174 u175 u176 u177 u178 u179 u180 u181 u182 u183 u184 u185 u186 u187 u188 u189 u190 u191 u192 u193 u194 u195 u196 u197 u198 u199 u200 u201 u202 : Value) (P gK gM j t k jk jk1 m mk cK cN cM nc : Nat) (aN na : Option Addr) (key jkey : ByteArray) (lim jlim : Int) (xn : List Value) (rb : Bool) (rc : Int) (wc : World) (K : Act → World → Prop) (Q0 : Exit → Act → World → Prop)
    (cell0 : wc.cell? ⟨P, 0, none⟩ = some (.slice (some ⟨gK, 0, none⟩) m cK)) (cell1 : wc.cell? ⟨P, 1, none⟩ = some (.slice aN mk cN)) (cell2 : wc.cell? ⟨P, 2, none⟩ = some (.slice (some ⟨gM, 0, none⟩) m cM)) (cellk : wc.cell? ⟨gK, j, none⟩ = some (.string jkey)) (cellm : wc.cell? ⟨gM, j, none⟩ = some (.int .u64 jlim)) (oK : wc.ownsRow 0 3 1 (.slice aN mk cN) mk xn)
    (hcall : ∀ d, Calls Try.prog 41 #[.string key, .slice na k nc, .int .u64 lim, .string jkey, .int .i64 (t : Nat), .slice (if cN = jk then aN else Option.map (fun x => x.add jk) aN) k (cN - jk), .int .u64 jlim] (wc.drewN d) fun e w' => e = .returned (.tuple #[.bool rb, .int .i64 rc]) ∧ ∃ n, w' = (wc.drewN d).drewN n)
    (hjm : j < m) (hj1 : jk1 ≤ jk + k) (hj2 : jk + k ≤ jk1) (hjk : jk1 ≤ mk) (hm : mk ≤ 1048576) (hj : j ≤ 65536)
    (hw2 : IntKind.i64.wrap ((j : Int) * (k : Int)) = (jk : Int)) (hw3 : IntKind.i64.wrap (((j : Int) + 1) * (k : Int)) = (jk1 : Int)) (hw4 : IntKind.i64.wrap ((j : Int) + 1) = (j : Int) + 1)
    (hK : ∀ (v36 v37 v38 v39 v40 v41 v42 v43 v44 v45 v46 v47 v48 v49 v50 v51 v52 v53 v54 v55 v56 v57 v58 v59 v60 v61 v62 v63 v64 v65 v66 v67 v68 v69 : Value) (n : Nat),  K ⟨#[.pointer (some ⟨P, 0, none⟩), .string key, .int .i64 (t : Nat), .slice na k nc, .int .u64 lim, u5, u6, u7, u8, u9, u10, .int .i64 (k : Nat), u12, .int .i64 (j : Nat), .bool rb, .int .i64 rc, u16, u17, u18, u19, u20, u21, u22, u23, u24, u25, u26, u27, u28, u29, u30, u31, u32, u33, u34, u35, v36, v37, v38, v39, v40, v41, v42, v43, v44, v45, v46, v47, v48, v49, v50, v51, v52, v53, v54, v55, v56, v57, v58, v59, v60, v61, v62, v63, v64, v65, v66, v67, v68, v69, u70, u71, u72, u73, u74, u75, u76, u77, u78, u79, u80, u81, u82, u83, u84, u85, u86, u87, u88, u89, u90, u91, u92, u93, u94, u95, u96, u97, u98, u99, u100, u101, u102, u103, u104, u105, u106, u107, u108, u109, u110, u111, u112, u113, u114, u115, u116, u117, u118, u119, u120, u121, u122, u123, u124, u125, u126, u127, u128, u129, u130, u131, u132, u133, u134, u135, u136, u137, u138, u139, u140, u141, u142, u143, u144, u145, u146, u147, u148, u149, u150, u151, u152, u153, u154, u155, u156, u157, u158, u159, u160, u161, u162, u163, u164, u165, u166, u167, u168, u169, u170, u171, u172, u173, u174, u175, u176, u177, u178, u179, u180, u181, u182, u183, u184, u185, u186, u187, u188, u189, u190, u191, u192, u193, u194, u195, u196, u197, u198, u199, u200, u201, u202], []⟩ (wc.drewN n)) :
    Code.wp Try.prog ((Try.f42.body.bind (findReg 8)).getD .skip) (Exit.then K Q0) ⟨#[.pointer (some ⟨P, 0, none⟩), .string key, .int .i64 (t : Nat), .slice na k nc, .int .u64 lim, u5, u6, u7, u8, u9, u10, .int .i64 (k : Nat), u12, .int .i64 (j : Nat), u14, u15, u16, u17, u18, u19, u20, u21, u22, u23, u24, u25, u26, u27, u28, u29, u30, u31, u32, u33, u34, u35, u36, u37, u38, u39, u40, u41, u42, u43, u44, u45, u46, u47, u48, u49, u50, u51, u52, u53, u54, u55, u56, u57, u58, u59, u60, u61, u62, u63, u64, u65, u66, u67, u68, u69, u70, u71, u72, u73, u74, u75, u76, u77, u78, u79, u80, u81, u82, u83, u84, u85, u86, u87, u88, u89, u90, u91, u92, u93, u94, u95, u96, u97, u98, u99, u100, u101, u102, u103, u104, u105, u106, u107, u108, u109, u110, u111, u112, u113, u114, u115, u116, u117, u118, u119, u120, u121, u122, u123, u124, u125, u126, u127, u128, u129, u130, u131, u132, u133, u134, u135, u136, u137, u138, u139, u140, u141, u142, u143, u144, u145, u146, u147, u148, u149, u150, u151, u152, u153, u154, u155, u156, u157, u158, u159, u160, u161, u162, u163, u164, u165, u166, u167, u168, u169, u170, u171, u172, u173, u174, u175, u176, u177, u178, u179, u180, u181, u182, u183, u184, u185, u186, u187, u188, u189, u190, u191, u192, u193, u194, u195, u196, u197, u198, u199, u200, u201, u202], []⟩ wc := by
  conv => arg 2; whnf
  have HK : Hid _ := hK
  clear hK
  have nK := own_nil oK
  clear oK
  have i1 : (j : Int) < (m : Int) := by omega
  have i2 : (jk : Int) ≤ (jk1 : Int) := by omega
  have i3 : (jk1 : Int) ≤ (cN : Int) := by omega
  have i5 : (0 : Int) ≤ (jk : Int) := by omega
  have hjd : jk1 - jk = k := by omega
  go_quiet ((go_at_call 41; exact Calls.quiet_of (hcall _)))
  exact HK.out _ _ _ _ _ _ _ _ _ _ _ _ _ _ _ _ _ _ _ _ _ _ _ _ _ _ _ _ _ _ _ _ _ _ _
end Go.Proofs.Qxb6600123a
