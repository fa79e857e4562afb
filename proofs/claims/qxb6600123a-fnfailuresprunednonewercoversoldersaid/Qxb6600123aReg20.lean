/-
  Seat b6600123a: 'f.need = append(f.need[:copy(f.need, f.need[from*k:kept*k])], need...)': region 20 of (*failures).add, in whatever order.
-/
import Derived.Test.Qxb6600123aAddBase
namespace Go.Proofs.Qxb6600123a
open Go.RowKit Go.Deep
set_option linter.unusedVariables false
set_option linter.unusedSimpArgs false
attribute [local go_sem ↓] Go.wp_at_zero Go.wp_at_succ

theorem in_news {B : Nat} {w : World} {na : Option Addr} {k nc : Nat} {nd : List Int} (h : In B w na k nc (fun i => .int .i64 (nd.getD i 0))) (hl : nd.length = k) : ∀ ad, na = some ad → ∀ j u, (nd.map (Value.int .i64))[j]? = some u → w.cell? (ad.add j) = some u := by
  intro ad had j u hu
  have hj : j < k := by have := (List.getElem?_eq_some_iff.1 hu).1; simp at this; omega
  obtain ⟨b, off, e, _, hc⟩ := h.cell j hj
  rw [had] at e
  cases e
  rw [Addr.add_lit, hc, ← hu]
  have hj' : j < nd.length := by omega
  simp [List.getD_eq_getElem?_getD, hj']

set_option maxRecDepth 1000000 in
set_option maxHeartbeats 4000000 in
theorem reg20 (u1 u2 u4 u5 u6 u7 u8 u9 u10 u13 u14 u15 u17 u18 u19 u20 u21 u22 u23 u24 u25 u26 u27 u28 u29 u30 u31 u32 u33 u34 u35 u36 u37 u38 u39 u40 u41 u42 u43 u44 u45 u46 u47 u48 u49 u50 u51 u52 u53 u54 u55 u56 u57 u58 u59 u60 u61 u62 u63 u64 u65 u66 u67 u68 u69 u70 u71 u72 u73 u74 u75 u76 u77 u78 u79 u80 u81 u82 u83 u84 u85 u86 u87 u88 u89 u90 u91 u92 u93 u94 u95 u96 u97 u98 u99 u100 u101 u102 u103 u104 u105 u106 u107 u108 u109 u110 u111 u112 u113 u114 u115 u116 u117 u118 u119 u120 u121 u122 u123 u124 u125 u126 u127 u128 u129 u130 u131 u132 u133 u134 u135 u136 u137 u138 u139 u140 u141 u142 u143 u144 u145 u146 u147 u148 u149 u150 u151 u152 u153 u154 u155 u156 u157 u158 u159 u160 u161 u162 u163 u164 u165 u166 u167 u168 u169 u170 u171 u172 u173 u174 u175 u176 u177 u178 u179 u180 u181 u182 u183 u184 u185 u186 u187 u188 u189 u190 u191 u192 u193 u194 u195 u196 u197 u198 u199 u200 u201 u202 : Value) (S : Nat → Prop) (B0 P c q k ck qk dk mk cN nc : Nat) (aN na : Option Addr) (nd : List Int) (xn A : List Value) (wc : World) (K : Act → World → Prop) (Q0 : Exit → Act → World → Prop)
    (oK : wc.ownsRow 0 3 1 (.slice aN mk cN) mk xn) (pK : some P ≠ (Value.slice aN mk cN).ownBlock) (hPl : P < wc.heap.size) (cell0 : wc.cell? ⟨P, 1, none⟩ = some (.slice aN mk cN)) (fro0 : wc.frozen? ⟨P, 1, none⟩ = false)
    (hsK : ∀ b, (Value.slice aN mk cN).ownBlock = some b → S b) (hS : ∀ b, wc.heap.size ≤ b → S b) (hB : ∀ b, S b → B0 ≤ b) (hnd : In B0 wc na k nc (fun i => .int .i64 (nd.getD i 0))) (hndl : nd.length = k)
    (tk : xn.take ck = A) (hcA : ck = A.length) (hA1 : ∀ u ∈ A, u.oneCell' = true) (hqc : qk ≤ ck) (hcm : ck ≤ mk) (hm : mk ≤ 1048576) (hk : k ≤ 65536) (hcd : ck - qk = dk)
    (hw1 : IntKind.i64.wrap ((q : Int) * (k : Int)) = (qk : Int)) (hw2 : IntKind.i64.wrap ((c : Int) * (k : Int)) = (ck : Int))
    (hK : ∀ (v153 v154 v155 v156 v157 v158 v159 v160 v161 v162 v163 v164 v165 v166 v167 v168 v169 v170 v171 v172 v173 v174 v175 v176 v177 v178 : Value) (ao2 : Option Addr) (c2 : Nat) (wb : World), wb.ownsRow 0 3 1 (.slice ao2 (dk + k) c2) (dk + k) (A.drop qk ++ nd.map (Value.int .i64)) → wc.grownBy wb (Value.slice aN mk cN).ownBlock → (∀ b, (Value.slice ao2 (dk + k) c2).ownBlock = some b → S b) →
      K ⟨#[.pointer (some ⟨P, 0, none⟩), u1, u2, .slice na k nc, u4, u5, u6, u7, u8, u9, u10, .int .i64 (k : Nat), .int .i64 (c : Nat), u13, u14, u15, .int .i64 (q : Nat), u17, u18, u19, u20, u21, u22, u23, u24, u25, u26, u27, u28, u29, u30, u31, u32, u33, u34, u35, u36, u37, u38, u39, u40, u41, u42, u43, u44, u45, u46, u47, u48, u49, u50, u51, u52, u53, u54, u55, u56, u57, u58, u59, u60, u61, u62, u63, u64, u65, u66, u67, u68, u69, u70, u71, u72, u73, u74, u75, u76, u77, u78, u79, u80, u81, u82, u83, u84, u85, u86, u87, u88, u89, u90, u91, u92, u93, u94, u95, u96, u97, u98, u99, u100, u101, u102, u103, u104, u105, u106, u107, u108, u109, u110, u111, u112, u113, u114, u115, u116, u117, u118, u119, u120, u121, u122, u123, u124, u125, u126, u127, u128, u129, u130, u131, u132, u133, u134, u135, u136, u137, u138, u139, u140, u141, u142, u143, u144, u145, u146, u147, u148, u149, u150, u151, u152, v153, v154, v155, v156, v157, v158, v159, v160, v161, v162, v163, v164, v165, v166, v167, v168, v169, v170, v171, v172, v173, v174, v175, v176, v177, v178, u179, u180, u181, u182, u183, u184, u185, u186, u187, u188, u189, u190, u191, u192, u193, u194, u195, u196, u197, u198, u199, u200, u201, u202], []⟩ (wb.setCell ⟨P, 1, none⟩ (.slice ao2 (dk + k) c2))) :
    Code.wp Try.prog ((Try.f42.body.bind (findReg 20)).getD .skip) (Exit.then K Q0) ⟨#[.pointer (some ⟨P, 0, none⟩), u1, u2, .slice na k nc, u4, u5, u6, u7, u8, u9, u10, .int .i64 (k : Nat), .int .i64 (c : Nat), u13, u14, u15, .int .i64 (q : Nat), u17, u18, u19, u20, u21, u22, u23, u24, u25, u26, u27, u28, u29, u30, u31, u32, u33, u34, u35, u36, u37, u38, u39, u40, u41, u42, u43, u44, u45, u46, u47, u48, u49, u50, u51, u52, u53, u54, u55, u56, u57, u58, u59, u60, u61, u62, u63, u64, u65, u66, u67, u68, u69, u70, u71, u72, u73, u74, u75, u76, u77, u78, u79, u80, u81, u82, u83, u84, u85, u86, u87, u88, u89, u90, u91, u92, u93, u94, u95, u96, u97, u98, u99, u100, u101, u102, u103, u104, u105, u106, u107, u108, u109, u110, u111, u112, u113, u114, u115, u116, u117, u118, u119, u120, u121, u122, u123, u124, u125, u126, u127, u128, u129, u130, u131, u132, u133, u134, u135, u136, u137, u138, u139, u140, u141, u142, u143, u144, u145, u146, u147, u148, u149, u150, u151, u152, u153, u154, u155, u156, u157, u158, u159, u160, u161, u162, u163, u164, u165, u166, u167, u168, u169, u170, u171, u172, u173, u174, u175, u176, u177, u178, u179, u180, u181, u182, u183, u184, u185, u186, u187, u188, u189, u190, u191, u192, u193, u194, u195, u196, u197, u198, u199, u200, u201, u202], []⟩ wc := by
  conv => arg 2; whnf
  have nK := own_nil oK
  obtain ⟨hl1, hl2, hl3⟩ := cut_list tk hcA hcd
  have hl3 := hl3 (by have := oK.1; omega)
  have h1c : ∀ u ∈ A.drop qk, u.oneCell' = true := fun u hu => hA1 u (List.mem_of_mem_drop hu)
  obtain ⟨cs, hcs⟩ : ∃ cs, cs = A.drop qk := ⟨_, rfl⟩
  rw [← hcs] at hl1 hl2 hl3 h1c hK
  clear hcs tk hcA hA1
  have HL2 : Hid (∀ j u, cs[j]? = some u → xn[qk + j]? = some u) := hl2
  have HL3 : Hid ((splice xn 0 cs).take dk = cs) := hl3
  have H1C : Hid (∀ u ∈ cs, u.oneCell' = true) := h1c
  have HOK : Hid (wc.ownsRow 0 3 1 (.slice aN mk cN) mk xn) := oK
  have HK : Hid _ := hK
  have HSK : Hid (∀ b, (Value.slice aN mk cN).ownBlock = some b → S b) := hsK
  have HS : Hid (∀ b, wc.heap.size ≤ b → S b) := hS
  have HBB : Hid (∀ b, S b → B0 ≤ b) := hB
  have HND : Hid (In B0 wc na k nc (fun i => .int .i64 (nd.getD i 0)) ∧ nd.length = k) := ⟨hnd, hndl⟩
  clear hl2 hl3 h1c oK hK hsK hS hB hnd hndl
  have i1 : (qk : Int) ≤ (ck : Int) := by omega
  have i2 : (ck : Int) ≤ (cN : Int) := by omega
  have i3 : (0 : Int) ≤ (qk : Int) := by omega
  have i4 : (0 : Int) ≤ (ck : Int) := by omega
  have i5 : (dk : Int) ≤ (cN : Int) := by omega
  refine wp_region_noPanic ?_
  refine anyT_start (S := fun w' => w'.cell? ⟨P, 1, none⟩ = some (.slice aN mk cN)) (T := 26) (by kernel_rfl) ?_
  have hHeld : wc.drew.cell? ⟨P, 1, none⟩ = some (.slice aN mk cN) := cell0
  refine anyT_take (i := 0) (oi := ?_) (v := ?_) ?_ (by kernel_rfl) (by kernel_rfl) (by kernel_rfl) (by kernel_rfl) (fun _ _ _ h => h) (Or.inl ⟨?_, ?_⟩) hHeld ?_
  rotate_left 2
  · simp only [List.getElem?_toArray, List.getElem?_cons_succ, List.getElem?_cons_zero]; rfl
  · rfl
  · intro w0 hSw; (try dsimp only at hSw); go_simp <;> with_reducible rfl
  (try simp only [Act.put, List.setIfInBounds_toArray, List.set_cons_zero, List.set_cons_succ])
  refine anyT_take (i := 1) (oi := ?_) (v := ?_) ?_ (by kernel_rfl) (by kernel_rfl) (by kernel_rfl) (by kernel_rfl) (fun _ _ _ h => h) (Or.inl ⟨?_, ?_⟩) hHeld ?_
  rotate_left 2
  · simp only [List.getElem?_toArray, List.getElem?_cons_succ, List.getElem?_cons_zero]; rfl
  · rfl
  · intro w0 hSw; (try dsimp only at hSw); go_simp <;> with_reducible rfl
  (try simp only [Act.put, List.setIfInBounds_toArray, List.set_cons_zero, List.set_cons_succ])
  refine anyT_take (i := 2) (oi := ?_) (v := ?_) ?_ (by kernel_rfl) (by kernel_rfl) (by kernel_rfl) (by kernel_rfl) (fun _ _ _ h => h) (Or.inl ⟨?_, ?_⟩) hHeld ?_
  rotate_left 2
  · simp only [List.getElem?_toArray, List.getElem?_cons_succ, List.getElem?_cons_zero]; rfl
  · rfl
  · intro w0 hSw; (try dsimp only at hSw); go_simp <;> with_reducible rfl
  (try simp only [Act.put, List.setIfInBounds_toArray, List.set_cons_zero, List.set_cons_succ])
  refine anyT_take (i := 3) (oi := ?_) (v := ?_) ?_ (by kernel_rfl) (by kernel_rfl) (by kernel_rfl) (by kernel_rfl) (fun _ _ _ h => h) (Or.inl ⟨?_, ?_⟩) hHeld ?_
  rotate_left 2
  · simp only [List.getElem?_toArray, List.getElem?_cons_succ, List.getElem?_cons_zero]; rfl
  · rfl
  · intro w0 hSw; (try dsimp only at hSw); go_simp <;> with_reducible rfl
  (try simp only [Act.put, List.setIfInBounds_toArray, List.set_cons_zero, List.set_cons_succ])
  refine anyT_take (i := 4) (oi := ?_) (v := ?_) ?_ (by kernel_rfl) (by kernel_rfl) (by kernel_rfl) (by kernel_rfl) (fun _ _ _ h => h) (Or.inl ⟨?_, ?_⟩) hHeld ?_
  rotate_left 2
  · simp only [List.getElem?_toArray, List.getElem?_cons_succ, List.getElem?_cons_zero]; rfl
  · rfl
  · intro w0 hSw; (try dsimp only at hSw); go_simp <;> with_reducible rfl
  (try simp only [Act.put, List.setIfInBounds_toArray, List.set_cons_zero, List.set_cons_succ])
  refine anyT_take (i := 5) (oi := ?_) (v := ?_) ?_ (by kernel_rfl) (by kernel_rfl) (by kernel_rfl) (by kernel_rfl) (fun _ _ _ h => h) (Or.inl ⟨?_, ?_⟩) hHeld ?_
  rotate_left 2
  · simp only [List.getElem?_toArray, List.getElem?_cons_succ, List.getElem?_cons_zero]; rfl
  · rfl
  · intro w0 hSw; (try dsimp only at hSw); go_simp <;> with_reducible rfl
  (try simp only [Act.put, List.setIfInBounds_toArray, List.set_cons_zero, List.set_cons_succ])
  refine anyT_take (i := 6) (oi := ?_) (v := ?_) ?_ (by kernel_rfl) (by kernel_rfl) (by kernel_rfl) (by kernel_rfl) (fun _ _ _ h => h) (Or.inl ⟨?_, ?_⟩) hHeld ?_
  rotate_left 2
  · simp only [List.getElem?_toArray, List.getElem?_cons_succ, List.getElem?_cons_zero]; rfl
  · rfl
  · intro w0 hSw; (try dsimp only at hSw); go_simp <;> with_reducible rfl
  (try simp only [Act.put, List.setIfInBounds_toArray, List.set_cons_zero, List.set_cons_succ])
  refine anyT_take (i := 7) (oi := ?_) (v := ?_) ?_ (by kernel_rfl) (by kernel_rfl) (by kernel_rfl) (by kernel_rfl) (fun _ _ _ h => h) (Or.inl ⟨?_, ?_⟩) hHeld ?_
  rotate_left 2
  · simp only [List.getElem?_toArray, List.getElem?_cons_succ, List.getElem?_cons_zero]; rfl
  · rfl
  · intro w0 hSw; (try dsimp only at hSw); go_simp <;> with_reducible rfl
  (try simp only [Act.put, List.setIfInBounds_toArray, List.set_cons_zero, List.set_cons_succ])
  refine anyT_take (i := 8) (oi := ?_) (v := ?_) ?_ (by kernel_rfl) (by kernel_rfl) (by kernel_rfl) (by kernel_rfl) (fun _ _ _ h => h) (Or.inl ⟨?_, ?_⟩) hHeld ?_
  rotate_left 2
  · simp only [List.getElem?_toArray, List.getElem?_cons_succ, List.getElem?_cons_zero]; rfl
  · rfl
  · intro w0 hSw; (try dsimp only at hSw); go_simp <;> with_reducible rfl
  (try simp only [Act.put, List.setIfInBounds_toArray, List.set_cons_zero, List.set_cons_succ])
  refine anyT_take (i := 9) (oi := ?_) (v := ?_) ?_ (by kernel_rfl) (by kernel_rfl) (by kernel_rfl) (by kernel_rfl) (fun _ _ _ h => h) (Or.inl ⟨?_, ?_⟩) hHeld ?_
  rotate_left 2
  · simp only [List.getElem?_toArray, List.getElem?_cons_succ, List.getElem?_cons_zero]; rfl
  · rfl
  · intro w0 hSw; (try dsimp only at hSw); go_simp <;> with_reducible rfl
  (try simp only [Act.put, List.setIfInBounds_toArray, List.set_cons_zero, List.set_cons_succ])
  refine anyT_take (i := 10) (oi := ?_) (v := ?_) ?_ (by kernel_rfl) (by kernel_rfl) (by kernel_rfl) (by kernel_rfl) (fun _ _ _ h => h) (Or.inl ⟨?_, ?_⟩) hHeld ?_
  rotate_left 2
  · simp only [List.getElem?_toArray, List.getElem?_cons_succ, List.getElem?_cons_zero]; rfl
  · rfl
  · intro w0 hSw; (try dsimp only at hSw); go_simp <;> with_reducible rfl
  (try simp only [Act.put, List.setIfInBounds_toArray, List.set_cons_zero, List.set_cons_succ])
  refine anyT_take (i := 11) (oi := ?_) (v := ?_) ?_ (by kernel_rfl) (by kernel_rfl) (by kernel_rfl) (by kernel_rfl) (fun _ _ _ h => h) (Or.inl ⟨?_, ?_⟩) hHeld ?_
  rotate_left 2
  · simp only [List.getElem?_toArray, List.getElem?_cons_succ, List.getElem?_cons_zero]; rfl
  · rfl
  · intro w0 hSw; (try dsimp only at hSw); go_simp <;> with_reducible rfl
  (try simp only [Act.put, List.setIfInBounds_toArray, List.set_cons_zero, List.set_cons_succ])
  refine anyT_take (i := 12) (oi := ?_) (v := ?_) ?_ (by kernel_rfl) (by kernel_rfl) (by kernel_rfl) (by kernel_rfl) (fun _ _ _ h => h) (Or.inl ⟨?_, ?_⟩) hHeld ?_
  rotate_left 2
  · simp only [List.getElem?_toArray, List.getElem?_cons_succ, List.getElem?_cons_zero]; rfl
  · rfl
  · intro w0 hSw; (try dsimp only at hSw); go_simp <;> with_reducible rfl
  (try simp only [Act.put, List.setIfInBounds_toArray, List.set_cons_zero, List.set_cons_succ])
  refine anyT_take (i := 13) (oi := ?_) (v := ?_) ?_ (by kernel_rfl) (by kernel_rfl) (by kernel_rfl) (by kernel_rfl) (fun _ _ _ h => h) (Or.inl ⟨?_, ?_⟩) hHeld ?_
  rotate_left 2
  · simp only [List.getElem?_toArray, List.getElem?_cons_succ, List.getElem?_cons_zero]; rfl
  · rfl
  · intro w0 hSw; (try dsimp only at hSw); go_simp <;> with_reducible rfl
  (try simp only [Act.put, List.setIfInBounds_toArray, List.set_cons_zero, List.set_cons_succ])
  refine anyT_take (i := 14) (oi := ?_) (v := ?_) ?_ (by kernel_rfl) (by kernel_rfl) (by kernel_rfl) (by kernel_rfl) (fun _ _ _ h => h) (Or.inl ⟨?_, ?_⟩) hHeld ?_
  rotate_left 2
  · simp only [List.getElem?_toArray, List.getElem?_cons_succ, List.getElem?_cons_zero]; rfl
  · rfl
  · intro w0 hSw; (try dsimp only at hSw); go_simp <;> with_reducible rfl
  (try simp only [Act.put, List.setIfInBounds_toArray, List.set_cons_zero, List.set_cons_succ])
  refine anyT_take (i := 15) (oi := ?_) (v := ?_) ?_ (by kernel_rfl) (by kernel_rfl) (by kernel_rfl) (by kernel_rfl) (fun _ _ _ h => h) (Or.inl ⟨?_, ?_⟩) hHeld ?_
  rotate_left 2
  · simp only [List.getElem?_toArray, List.getElem?_cons_succ, List.getElem?_cons_zero]; rfl
  · rfl
  · intro w0 hSw; (try dsimp only at hSw); go_simp <;> with_reducible rfl
  (try simp only [Act.put, List.setIfInBounds_toArray, List.set_cons_zero, List.set_cons_succ])
  refine anyT_take (i := 16) (oi := ?_) (v := ?_) ?_ (by kernel_rfl) (by kernel_rfl) (by kernel_rfl) (by kernel_rfl) (fun _ _ _ h => h) (Or.inl ⟨?_, ?_⟩) hHeld ?_
  rotate_left 2
  · simp only [List.getElem?_toArray, List.getElem?_cons_succ, List.getElem?_cons_zero]; rfl
  · rfl
  · intro w0 hSw; (try dsimp only at hSw); go_simp <;> with_reducible rfl
  (try simp only [Act.put, List.setIfInBounds_toArray, List.set_cons_zero, List.set_cons_succ])
  refine anyT_take (i := 17) (oi := ?_) (v := ?_) ?_ (by kernel_rfl) (by kernel_rfl) (by kernel_rfl) (by kernel_rfl) (fun _ _ _ h => h) (Or.inl ⟨?_, ?_⟩) hHeld ?_
  rotate_left 2
  · simp only [List.getElem?_toArray, List.getElem?_cons_succ, List.getElem?_cons_zero]; rfl
  · rfl
  · intro w0 hSw; (try dsimp only at hSw); go_simp <;> with_reducible rfl
  (try simp only [Act.put, List.setIfInBounds_toArray, List.set_cons_zero, List.set_cons_succ])
  refine anyT_take (i := 18) (oi := ?_) (v := ?_) ?_ (by kernel_rfl) (by kernel_rfl) (by kernel_rfl) (by kernel_rfl) (fun _ _ _ h => h) (Or.inl ⟨?_, ?_⟩) hHeld ?_
  rotate_left 2
  · simp only [List.getElem?_toArray, List.getElem?_cons_succ, List.getElem?_cons_zero]; rfl
  · rfl
  · intro w0 hSw; (try dsimp only at hSw); go_simp <;> with_reducible rfl
  (try simp only [Act.put, List.setIfInBounds_toArray, List.set_cons_zero, List.set_cons_succ])
  refine anyT_take (i := 19) (oi := ?_) (v := ?_) ?_ (by kernel_rfl) (by kernel_rfl) (by kernel_rfl) (by kernel_rfl) (fun _ _ _ h => h) (Or.inl ⟨?_, ?_⟩) hHeld ?_
  rotate_left 2
  · simp only [List.getElem?_toArray, List.getElem?_cons_succ, List.getElem?_cons_zero]; rfl
  · rfl
  · intro w0 hSw; (try dsimp only at hSw); go_simp <;> with_reducible rfl
  (try simp only [Act.put, List.setIfInBounds_toArray, List.set_cons_zero, List.set_cons_succ])
  refine anyT_take (i := 22) (oi := ?_) (v := ?_) ?_ (by kernel_rfl) (by kernel_rfl) (by kernel_rfl) (by kernel_rfl) (fun _ _ _ h => h) (Or.inl ⟨?_, ?_⟩) hHeld ?_
  rotate_left 2
  · simp only [List.getElem?_toArray, List.getElem?_cons_succ, List.getElem?_cons_zero]; rfl
  · rfl
  · intro w0 hSw; (try dsimp only at hSw); go_simp <;> with_reducible rfl
  (try simp only [Act.put, List.setIfInBounds_toArray, List.set_cons_zero, List.set_cons_succ])
  refine anyT_one (i := 20) (o := ?_) (by kernel_rfl) ?_ (fun K hK => ?_)
  rotate_left
  · simp only [List.getElem?_toArray, List.getElem?_cons_succ, List.getElem?_cons_zero]; rfl
  refine step_copy_rows (by rfl) _ _ 22 (by rfl) 3 Try.underlying22 siz3 _ _ _ _ _ _ (by rfl) (by rfl) (.slice aN mk cN) mk xn ?_ 0 cs ?_ (by omega) ?_ H1C.out ?_
  · first | exact HOK.out | exact HOK.out.alloc _
  · rw [hl1]; exact (Nat.min_eq_left (by omega)).symm
  · exact copy_pos (by first | exact HOK.out | exact HOK.out.alloc _) (by omega) hl1 HL2.out
  intro wa owa hga
  obtain ⟨hca, hfa0, ocut, hga2⟩ := after_copy (wc := wc) (grown_drew' (World.grownBy.refl _ _)) hga pK hPl cell0 fro0 owa (by omega) HL3.out
  have HGA : Hid (wc.grownBy wa (Value.slice aN mk cN).ownBlock) := hga2
  have HNW : Hid (In B0 wa na k nc (fun i => .int .i64 (nd.getD i 0))) := HND.out.1.later (((Fr.refl S wc).grown hga2 HSK.out HS.out).below HBB.out)
  clear hga owa hga2 HOK
  refine hK.out _ _ (fun _ => hca) ?_
  clear hK K
  (try simp only [Act.put, List.setIfInBounds_toArray, List.set_cons_zero, List.set_cons_succ])
  refine anyT_take (i := 21) (oi := ?_) (v := ?_) ?_ (by kernel_rfl) (by kernel_rfl) (by kernel_rfl) (by kernel_rfl) (fun _ _ _ h => h) (Or.inl ⟨?_, ?_⟩) hca ?_
  rotate_left 2
  · simp only [List.getElem?_toArray, List.getElem?_cons_succ, List.getElem?_cons_zero]; rfl
  · rfl
  · intro w0 hSw; (try dsimp only at hSw); go_simp <;> with_reducible rfl
  (try simp only [Act.put, List.setIfInBounds_toArray, List.set_cons_zero, List.set_cons_succ])
  refine anyT_one (i := 23) (o := ?_) (by kernel_rfl) ?_ (fun K hK => ?_)
  rotate_left
  · simp only [List.getElem?_toArray, List.getElem?_cons_succ, List.getElem?_cons_zero]; rfl
  refine step_append_rows (by rfl) _ _ 22 (by rfl) 3 (.int .i64 0) 8 Try.underlying22 info3 rfl (.slice aN dk cN) dk cs (by first | rfl | (simp [Act.eval]; done)) ?_ na k nc (nd.map (Value.int .i64)) (by rfl) ?_ ?_ ?_ ?_ ?_ ?_ ?_
  · exact ocut
  · exact HNW.out.nil
  · rw [List.length_map]; exact HND.out.2
  · exact in_news HNW.out HND.out.2
  · exact ints_oneCell .i64 nd
  · unfold maxLen; omega
  · omega
  intro ao2 c2 wb owb hgb hlb
  obtain ⟨hcb, hfb, hgb2, hsb⟩ := after_append (v2 := .slice ao2 (dk + k) c2) HGA.out (World.grownBy.refl _ _) hgb pK hPl cell0 fro0 hlb HSK.out HS.out
  have HB : Hid (wc.grownBy wb (Value.slice aN mk cN).ownBlock ∧ ∀ b, (Value.slice ao2 (dk + k) c2).ownBlock = some b → S b) := ⟨hgb2, hsb⟩
  clear hgb hlb hgb2 hsb
  refine hK.out _ _ (fun _ => hcb) ?_
  clear hK K
  (try simp only [Act.put, List.setIfInBounds_toArray, List.set_cons_zero, List.set_cons_succ])
  refine anyT_one (i := 24) (o := ?_) (by kernel_rfl) ?_ (fun K hK => ?_)
  rotate_left
  · simp only [List.getElem?_toArray, List.getElem?_cons_succ, List.getElem?_cons_zero]; rfl
  go_simp
  refine hK.out _ _ (fun _ => hcb) ?_
  clear hK K
  (try simp only [Act.put, List.setIfInBounds_toArray, List.set_cons_zero, List.set_cons_succ])
  refine anyT_one (i := 25) (o := ?_) (by kernel_rfl) ?_ (fun K hK => ?_)
  rotate_left
  · simp only [List.getElem?_toArray, List.getElem?_cons_succ, List.getElem?_cons_zero]; rfl
  go_simp
  refine hK.out _ _ (fun _ => hcb) ?_
  clear hK K
  (try simp only [Act.put, List.setIfInBounds_toArray, List.set_cons_zero, List.set_cons_succ])
  refine anyT_one (i := 26) (o := ?_) (by kernel_rfl) ?_ (fun K hK => ?_)
  rotate_left
  · simp only [List.getElem?_toArray, List.getElem?_cons_succ, List.getElem?_cons_zero]; rfl
  go_simp
  refine hK.out _ _ (fun h => absurd rfl h) ?_
  clear hK K
  (try simp only [Act.put, List.setIfInBounds_toArray, List.set_cons_zero, List.set_cons_succ])
  refine anyT_done (by kernel_rfl) ?_ _
  refine NoPanic.normal ?_
  exact HK.out _ _ _ _ _ _ _ _ _ _ _ _ _ _ _ _ _ _ _ _ _ _ _ _ _ _ ao2 c2 wb owb HB.out.1 HB.out.2
end Go.Proofs.Qxb6600123a
