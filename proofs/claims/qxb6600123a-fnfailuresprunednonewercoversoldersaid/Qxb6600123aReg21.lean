/-
  Seat b6600123a: 'f.limits = append(f.limits[:copy(f.limits, f.limits[from:kept])], limit)': region 21 of (*failures).add, in whatever order.
-/
import Derived.Test.Qxb6600123aAddBase
namespace Go.Proofs.Qxb6600123a
open Go.RowKit Go.Deep
set_option linter.unusedVariables false
set_option linter.unusedSimpArgs false
attribute [local go_sem ↓] Go.wp_at_zero Go.wp_at_succ

set_option maxRecDepth 1000000 in
set_option maxHeartbeats 4000000 in
theorem reg21 (u1 u2 u3 u5 u6 u7 u8 u9 u10 u11 u13 u14 u15 u17 u18 u19 u20 u21 u22 u23 u24 u25 u26 u27 u28 u29 u30 u31 u32 u33 u34 u35 u36 u37 u38 u39 u40 u41 u42 u43 u44 u45 u46 u47 u48 u49 u50 u51 u52 u53 u54 u55 u56 u57 u58 u59 u60 u61 u62 u63 u64 u65 u66 u67 u68 u69 u70 u71 u72 u73 u74 u75 u76 u77 u78 u79 u80 u81 u82 u83 u84 u85 u86 u87 u88 u89 u90 u91 u92 u93 u94 u95 u96 u97 u98 u99 u100 u101 u102 u103 u104 u105 u106 u107 u108 u109 u110 u111 u112 u113 u114 u115 u116 u117 u118 u119 u120 u121 u122 u123 u124 u125 u126 u127 u128 u129 u130 u131 u132 u133 u134 u135 u136 u137 u138 u139 u140 u141 u142 u143 u144 u145 u146 u147 u148 u149 u150 u151 u152 u153 u154 u155 u156 u157 u158 u159 u160 u161 u162 u163 u164 u165 u166 u167 u168 u169 u170 u171 u172 u173 u174 u175 u176 u177 u178 u179 u180 u181 u182 u183 u184 u185 u186 u187 u188 u189 u190 u191 u192 u193 u194 u195 u196 u197 u198 u199 u200 u201 u202 : Value) (S : Nat → Prop) (P c q d m cK : Nat) (aK : Option Addr) (lim : Int) (xk A : List Value) (wc : World) (K : Act → World → Prop) (Q0 : Exit → Act → World → Prop)
    (oK : wc.ownsRow 0 58 1 (.slice aK m cK) m xk) (pK : some P ≠ (Value.slice aK m cK).ownBlock) (hPl : P < wc.heap.size) (cell0 : wc.cell? ⟨P, 2, none⟩ = some (.slice aK m cK)) (fro0 : wc.frozen? ⟨P, 2, none⟩ = false)
    (hsK : ∀ b, (Value.slice aK m cK).ownBlock = some b → S b) (hS : ∀ b, wc.heap.size ≤ b → S b)
    (tk : xk.take c = A) (hcA : c = A.length) (hA1 : ∀ u ∈ A, u.oneCell' = true) (hqc : q ≤ c) (hcm : c ≤ m) (hm : m ≤ 65536) (hcd : c - q = d)
    (hK : ∀ (v179 v180 v181 v182 v183 v184 v185 v186 v187 v188 v189 v190 v191 v192 v193 v194 v195 v196 v197 v198 v199 v200 v201 : Value) (ao2 : Option Addr) (c2 : Nat) (wb : World), wb.ownsRow 0 58 1 (.slice ao2 (d + 1) c2) (d + 1) (A.drop q ++ [.int .u64 lim]) → wc.grownBy wb (Value.slice aK m cK).ownBlock → (∀ b, (Value.slice ao2 (d + 1) c2).ownBlock = some b → S b) →
      K ⟨#[.pointer (some ⟨P, 0, none⟩), u1, u2, u3, .int .u64 lim, u5, u6, u7, u8, u9, u10, u11, .int .i64 (c : Nat), u13, u14, u15, .int .i64 (q : Nat), u17, u18, u19, u20, u21, u22, u23, u24, u25, u26, u27, u28, u29, u30, u31, u32, u33, u34, u35, u36, u37, u38, u39, u40, u41, u42, u43, u44, u45, u46, u47, u48, u49, u50, u51, u52, u53, u54, u55, u56, u57, u58, u59, u60, u61, u62, u63, u64, u65, u66, u67, u68, u69, u70, u71, u72, u73, u74, u75, u76, u77, u78, u79, u80, u81, u82, u83, u84, u85, u86, u87, u88, u89, u90, u91, u92, u93, u94, u95, u96, u97, u98, u99, u100, u101, u102, u103, u104, u105, u106, u107, u108, u109, u110, u111, u112, u113, u114, u115, u116, u117, u118, u119, u120, u121, u122, u123, u124, u125, u126, u127, u128, u129, u130, u131, u132, u133, u134, u135, u136, u137, u138, u139, u140, u141, u142, u143, u144, u145, u146, u147, u148, u149, u150, u151, u152, u153, u154, u155, u156, u157, u158, u159, u160, u161, u162, u163, u164, u165, u166, u167, u168, u169, u170, u171, u172, u173, u174, u175, u176, u177, u178, v179, v180, v181, v182, v183, v184, v185, v186, v187, v188, v189, v190, v191, v192, v193, v194, v195, v196, v197, v198, v199, v200, v201, u202], []⟩ (wb.setCell ⟨P, 2, none⟩ (.slice ao2 (d + 1) c2))) :
    Code.wp Try.prog ((Try.f42.body.bind (findReg 21)).getD .skip) (Exit.then K Q0) ⟨#[.pointer (some ⟨P, 0, none⟩), u1, u2, u3, .int .u64 lim, u5, u6, u7, u8, u9, u10, u11, .int .i64 (c : Nat), u13, u14, u15, .int .i64 (q : Nat), u17, u18, u19, u20, u21, u22, u23, u24, u25, u26, u27, u28, u29, u30, u31, u32, u33, u34, u35, u36, u37, u38, u39, u40, u41, u42, u43, u44, u45, u46, u47, u48, u49, u50, u51, u52, u53, u54, u55, u56, u57, u58, u59, u60, u61, u62, u63, u64, u65, u66, u67, u68, u69, u70, u71, u72, u73, u74, u75, u76, u77, u78, u79, u80, u81, u82, u83, u84, u85, u86, u87, u88, u89, u90, u91, u92, u93, u94, u95, u96, u97, u98, u99, u100, u101, u102, u103, u104, u105, u106, u107, u108, u109, u110, u111, u112, u113, u114, u115, u116, u117, u118, u119, u120, u121, u122, u123, u124, u125, u126, u127, u128, u129, u130, u131, u132, u133, u134, u135, u136, u137, u138, u139, u140, u141, u142, u143, u144, u145, u146, u147, u148, u149, u150, u151, u152, u153, u154, u155, u156, u157, u158, u159, u160, u161, u162, u163, u164, u165, u166, u167, u168, u169, u170, u171, u172, u173, u174, u175, u176, u177, u178, u179, u180, u181, u182, u183, u184, u185, u186, u187, u188, u189, u190, u191, u192, u193, u194, u195, u196, u197, u198, u199, u200, u201, u202], []⟩ wc := by
  conv => arg 2; whnf
  have nK := own_nil oK
  obtain ⟨hl1, hl2, hl3⟩ := cut_list tk hcA hcd
  have hl3 := hl3 (by have := oK.1; omega)
  have h1c : ∀ u ∈ A.drop q, u.oneCell' = true := fun u hu => hA1 u (List.mem_of_mem_drop hu)
  obtain ⟨cs, hcs⟩ : ∃ cs, cs = A.drop q := ⟨_, rfl⟩
  rw [← hcs] at hl1 hl2 hl3 h1c hK
  clear hcs tk hcA hA1
  have HL2 : Hid (∀ j u, cs[j]? = some u → xk[q + j]? = some u) := hl2
  have HL3 : Hid ((splice xk 0 cs).take d = cs) := hl3
  have H1C : Hid (∀ u ∈ cs, u.oneCell' = true) := h1c
  have HOK : Hid (wc.ownsRow 0 58 1 (.slice aK m cK) m xk) := oK
  have HK : Hid _ := hK
  have HSK : Hid (∀ b, (Value.slice aK m cK).ownBlock = some b → S b) := hsK
  have HS : Hid (∀ b, wc.heap.size ≤ b → S b) := hS
  clear hl2 hl3 h1c oK hK hsK hS
  have i1 : (q : Int) ≤ (c : Int) := by omega
  have i2 : (c : Int) ≤ (cK : Int) := by omega
  have i3 : (0 : Int) ≤ (q : Int) := by omega
  have i4 : (0 : Int) ≤ (c : Int) := by omega
  have i5 : (d : Int) ≤ (cK : Int) := by omega
  refine wp_region_noPanic ?_
  refine anyT_start (S := fun w' => w'.cell? ⟨P, 2, none⟩ = some (.slice aK m cK)) (T := 23) (by kernel_rfl) ?_
  have hHeld : wc.drew.cell? ⟨P, 2, none⟩ = some (.slice aK m cK) := cell0
  refine anyT_take (i := 0) (oi := ?_) (v := ?_) ?_ (by kernel_rfl) (by kernel_rfl) (by kernel_rfl) (by kernel_rfl) (fun _ _ _ h => h) (Or.inl ⟨?_, ?_⟩) hHeld ?_
  rotate_left 2
  · simp only [List.getElem?_toArray, List.getElem?_cons_succ, List.getElem?_cons_zero]; rfl
  · rfl
  · intro w0 hSw; (try dsimp only at hSw); go_simp <;> with_reducible rfl
  (try simp only [Act.put, List.setIfInBounds_toArray, List.set_cons_zero, List.set_cons_succ])
  refine anyT_take (i := 1) (oi := ?_) (v := ?_) ?_ (by kernel_rfl) (by kernel_rfl) (by kernel_rfl) (by kernel_rfl) (fun _ _ _ h => h) (Or.inl ⟨?_, ?_⟩) hHeld ?_
  rotate_left 2
  · simp only [List.getElem?_toArray, List.getElem?_cons_succ, List.getElem?_cons_zero]; rfl
  · rfl
  · intro w0 hSw; (try dsimp only at hSw); go_simp <;> with_reducible rfl
  (try simp only [Act.put, List.setIfInBounds_toArray, List.set_cons_zero, List.set_cons_succ])
  refine anyT_take (i := 2) (oi := ?_) (v := ?_) ?_ (by kernel_rfl) (by kernel_rfl) (by kernel_rfl) (by kernel_rfl) (fun _ _ _ h => h) (Or.inl ⟨?_, ?_⟩) hHeld ?_
  rotate_left 2
  · simp only [List.getElem?_toArray, List.getElem?_cons_succ, List.getElem?_cons_zero]; rfl
  · rfl
  · intro w0 hSw; (try dsimp only at hSw); go_simp <;> with_reducible rfl
  (try simp only [Act.put, List.setIfInBounds_toArray, List.set_cons_zero, List.set_cons_succ])
  refine anyT_take (i := 3) (oi := ?_) (v := ?_) ?_ (by kernel_rfl) (by kernel_rfl) (by kernel_rfl) (by kernel_rfl) (fun _ _ _ h => h) (Or.inl ⟨?_, ?_⟩) hHeld ?_
  rotate_left 2
  · simp only [List.getElem?_toArray, List.getElem?_cons_succ, List.getElem?_cons_zero]; rfl
  · rfl
  · intro w0 hSw; (try dsimp only at hSw); go_simp <;> with_reducible rfl
  (try simp only [Act.put, List.setIfInBounds_toArray, List.set_cons_zero, List.set_cons_succ])
  refine anyT_take (i := 4) (oi := ?_) (v := ?_) ?_ (by kernel_rfl) (by kernel_rfl) (by kernel_rfl) (by kernel_rfl) (fun _ _ _ h => h) (Or.inl ⟨?_, ?_⟩) hHeld ?_
  rotate_left 2
  · simp only [List.getElem?_toArray, List.getElem?_cons_succ, List.getElem?_cons_zero]; rfl
  · rfl
  · intro w0 hSw; (try dsimp only at hSw); go_simp <;> with_reducible rfl
  (try simp only [Act.put, List.setIfInBounds_toArray, List.set_cons_zero, List.set_cons_succ])
  refine anyT_take (i := 5) (oi := ?_) (v := ?_) ?_ (by kernel_rfl) (by kernel_rfl) (by kernel_rfl) (by kernel_rfl) (fun _ _ _ h => h) (Or.inl ⟨?_, ?_⟩) hHeld ?_
  rotate_left 2
  · simp only [List.getElem?_toArray, List.getElem?_cons_succ, List.getElem?_cons_zero]; rfl
  · rfl
  · intro w0 hSw; (try dsimp only at hSw); go_simp <;> with_reducible rfl
  (try simp only [Act.put, List.setIfInBounds_toArray, List.set_cons_zero, List.set_cons_succ])
  refine anyT_take (i := 6) (oi := ?_) (v := ?_) ?_ (by kernel_rfl) (by kernel_rfl) (by kernel_rfl) (by kernel_rfl) (fun _ _ _ h => h) (Or.inl ⟨?_, ?_⟩) hHeld ?_
  rotate_left 2
  · simp only [List.getElem?_toArray, List.getElem?_cons_succ, List.getElem?_cons_zero]; rfl
  · rfl
  · intro w0 hSw; (try dsimp only at hSw); go_simp <;> with_reducible rfl
  (try simp only [Act.put, List.setIfInBounds_toArray, List.set_cons_zero, List.set_cons_succ])
  refine anyT_take (i := 7) (oi := ?_) (v := ?_) ?_ (by kernel_rfl) (by kernel_rfl) (by kernel_rfl) (by kernel_rfl) (fun _ _ _ h => h) (Or.inl ⟨?_, ?_⟩) hHeld ?_
  rotate_left 2
  · simp only [List.getElem?_toArray, List.getElem?_cons_succ, List.getElem?_cons_zero]; rfl
  · rfl
  · intro w0 hSw; (try dsimp only at hSw); go_simp <;> with_reducible rfl
  (try simp only [Act.put, List.setIfInBounds_toArray, List.set_cons_zero, List.set_cons_succ])
  refine anyT_take (i := 8) (oi := ?_) (v := ?_) ?_ (by kernel_rfl) (by kernel_rfl) (by kernel_rfl) (by kernel_rfl) (fun _ _ _ h => h) (Or.inl ⟨?_, ?_⟩) hHeld ?_
  rotate_left 2
  · simp only [List.getElem?_toArray, List.getElem?_cons_succ, List.getElem?_cons_zero]; rfl
  · rfl
  · intro w0 hSw; (try dsimp only at hSw); go_simp <;> with_reducible rfl
  (try simp only [Act.put, List.setIfInBounds_toArray, List.set_cons_zero, List.set_cons_succ])
  refine anyT_take (i := 9) (oi := ?_) (v := ?_) ?_ (by kernel_rfl) (by kernel_rfl) (by kernel_rfl) (by kernel_rfl) (fun _ _ _ h => h) (Or.inl ⟨?_, ?_⟩) hHeld ?_
  rotate_left 2
  · simp only [List.getElem?_toArray, List.getElem?_cons_succ, List.getElem?_cons_zero]; rfl
  · rfl
  · intro w0 hSw; (try dsimp only at hSw); go_simp <;> with_reducible rfl
  (try simp only [Act.put, List.setIfInBounds_toArray, List.set_cons_zero, List.set_cons_succ])
  refine anyT_take (i := 10) (oi := ?_) (v := ?_) ?_ (by kernel_rfl) (by kernel_rfl) (by kernel_rfl) (by kernel_rfl) (fun _ _ _ h => h) (Or.inl ⟨?_, ?_⟩) hHeld ?_
  rotate_left 2
  · simp only [List.getElem?_toArray, List.getElem?_cons_succ, List.getElem?_cons_zero]; rfl
  · rfl
  · intro w0 hSw; (try dsimp only at hSw); go_simp <;> with_reducible rfl
  (try simp only [Act.put, List.setIfInBounds_toArray, List.set_cons_zero, List.set_cons_succ])
  refine anyT_take (i := 11) (oi := ?_) (v := ?_) ?_ (by kernel_rfl) (by kernel_rfl) (by kernel_rfl) (by kernel_rfl) (fun _ _ _ h => h) (Or.inl ⟨?_, ?_⟩) hHeld ?_
  rotate_left 2
  · simp only [List.getElem?_toArray, List.getElem?_cons_succ, List.getElem?_cons_zero]; rfl
  · rfl
  · intro w0 hSw; (try dsimp only at hSw); go_simp <;> with_reducible rfl
  (try simp only [Act.put, List.setIfInBounds_toArray, List.set_cons_zero, List.set_cons_succ])
  refine anyT_take (i := 12) (oi := ?_) (v := ?_) ?_ (by kernel_rfl) (by kernel_rfl) (by kernel_rfl) (by kernel_rfl) (fun _ _ _ h => h) (Or.inl ⟨?_, ?_⟩) hHeld ?_
  rotate_left 2
  · simp only [List.getElem?_toArray, List.getElem?_cons_succ, List.getElem?_cons_zero]; rfl
  · rfl
  · intro w0 hSw; (try dsimp only at hSw); go_simp <;> with_reducible rfl
  (try simp only [Act.put, List.setIfInBounds_toArray, List.set_cons_zero, List.set_cons_succ])
  refine anyT_take (i := 13) (oi := ?_) (v := ?_) ?_ (by kernel_rfl) (by kernel_rfl) (by kernel_rfl) (by kernel_rfl) (fun _ _ _ h => h) (Or.inl ⟨?_, ?_⟩) hHeld ?_
  rotate_left 2
  · simp only [List.getElem?_toArray, List.getElem?_cons_succ, List.getElem?_cons_zero]; rfl
  · rfl
  · intro w0 hSw; (try dsimp only at hSw); go_simp <;> with_reducible rfl
  (try simp only [Act.put, List.setIfInBounds_toArray, List.set_cons_zero, List.set_cons_succ])
  refine anyT_take (i := 14) (oi := ?_) (v := ?_) ?_ (by kernel_rfl) (by kernel_rfl) (by kernel_rfl) (by kernel_rfl) (fun _ _ _ h => h) (Or.inl ⟨?_, ?_⟩) hHeld ?_
  rotate_left 2
  · simp only [List.getElem?_toArray, List.getElem?_cons_succ, List.getElem?_cons_zero]; rfl
  · rfl
  · intro w0 hSw; (try dsimp only at hSw); go_simp <;> with_reducible rfl
  (try simp only [Act.put, List.setIfInBounds_toArray, List.set_cons_zero, List.set_cons_succ])
  refine anyT_take (i := 15) (oi := ?_) (v := ?_) ?_ (by kernel_rfl) (by kernel_rfl) (by kernel_rfl) (by kernel_rfl) (fun _ _ _ h => h) (Or.inl ⟨?_, ?_⟩) hHeld ?_
  rotate_left 2
  · simp only [List.getElem?_toArray, List.getElem?_cons_succ, List.getElem?_cons_zero]; rfl
  · rfl
  · intro w0 hSw; (try dsimp only at hSw); go_simp <;> with_reducible rfl
  (try simp only [Act.put, List.setIfInBounds_toArray, List.set_cons_zero, List.set_cons_succ])
  refine anyT_take (i := 18) (oi := ?_) (v := ?_) ?_ (by kernel_rfl) (by kernel_rfl) (by kernel_rfl) (by kernel_rfl) (fun _ _ _ h => h) (Or.inl ⟨?_, ?_⟩) hHeld ?_
  rotate_left 2
  · simp only [List.getElem?_toArray, List.getElem?_cons_succ, List.getElem?_cons_zero]; rfl
  · rfl
  · intro w0 hSw; (try dsimp only at hSw); go_simp <;> with_reducible rfl
  (try simp only [Act.put, List.setIfInBounds_toArray, List.set_cons_zero, List.set_cons_succ])
  refine anyT_two (i := 16) (j := 19) (oi := ?_) (oj := ?_) (by kernel_rfl) ?_ ?_ (fun K hK => ?_) (fun K hK => ?_)
  rotate_left 2
  · simp only [List.getElem?_toArray, List.getElem?_cons_succ, List.getElem?_cons_zero]; rfl
  · simp only [List.getElem?_toArray, List.getElem?_cons_succ, List.getElem?_cons_zero]; rfl
  · refine step_copy_rows (by rfl) _ _ 57 (by rfl) 58 Try.underlying57 siz58 _ _ _ _ _ _ (by rfl) (by rfl) (.slice aK m cK) m xk ?_ 0 cs ?_ (by omega) ?_ H1C.out ?_
    · first | exact HOK.out | exact HOK.out.alloc _
    · rw [hl1]; exact (Nat.min_eq_left (by omega)).symm
    · exact copy_pos (by first | exact HOK.out | exact HOK.out.alloc _) (by omega) hl1 HL2.out
    intro wa owa hga
    obtain ⟨hca, hfa0, ocut, hga2⟩ := after_copy (wc := wc) (grown_drew' (World.grownBy.refl _ _)) hga pK hPl cell0 fro0 owa (by omega) HL3.out
    have HGA : Hid (wc.grownBy wa (Value.slice aK m cK).ownBlock) := hga2
    clear hga owa hga2 HOK
    refine hK.out _ _ (fun _ => hca) ?_
    clear hK K
    (try simp only [Act.put, List.setIfInBounds_toArray, List.set_cons_zero, List.set_cons_succ])
    refine anyT_take (i := 17) (oi := ?_) (v := ?_) ?_ (by kernel_rfl) (by kernel_rfl) (by kernel_rfl) (by kernel_rfl) (fun _ _ _ h => h) (Or.inl ⟨?_, ?_⟩) hca ?_
    rotate_left 2
    · simp only [List.getElem?_toArray, List.getElem?_cons_succ, List.getElem?_cons_zero]; rfl
    · rfl
    · intro w0 hSw; (try dsimp only at hSw); go_simp <;> with_reducible rfl
    (try simp only [Act.put, List.setIfInBounds_toArray, List.set_cons_zero, List.set_cons_succ])
    refine anyT_one (i := 19) (o := ?_) (by kernel_rfl) ?_ (fun K hK => ?_)
    rotate_left
    · simp only [List.getElem?_toArray, List.getElem?_cons_succ, List.getElem?_cons_zero]; rfl
    go_simp
    refine hK.out _ _ (fun _ => (World.cell?_alloc_lt _ _ _ (by have := HGA.out.size; exact Nat.lt_of_lt_of_le hPl this)).trans hca) ?_
    clear hK K
    (try simp only [Act.put, List.setIfInBounds_toArray, List.set_cons_zero, List.set_cons_succ])
    refine anyT_one (i := 20) (o := ?_) (by kernel_rfl) ?_ (fun K hK => ?_)
    rotate_left
    · simp only [List.getElem?_toArray, List.getElem?_cons_succ, List.getElem?_cons_zero]; rfl
    refine step_append_rows (by rfl) _ _ 57 (by rfl) 58 (.int .u64 0) 8 Try.underlying57 info58 rfl (.slice aK d cK) d cs (by first | rfl | (simp [Act.eval]; done)) ?_ _ 1 1 [.int .u64 lim] (by rfl) ?_ rfl ?_ ?_ ?_ ?_ ?_
    · first | exact ocut | exact ocut.alloc _
    · intro h; cases h
    · intro ad had; cases had; exact World.news_of_block (heap_alloc_new wa _)
    · intro u hu; simp at hu; subst hu; rfl
    · unfold maxLen; omega
    · omega
    intro ao2 c2 wb owb hgb hlb
    obtain ⟨hcb, hfb, hgb2, hsb⟩ := after_append (v2 := .slice ao2 (d + 1) c2) HGA.out (World.grownBy_alloc _ _ _) hgb pK hPl cell0 fro0 hlb HSK.out HS.out
    have HB : Hid (wc.grownBy wb (Value.slice aK m cK).ownBlock ∧ ∀ b, (Value.slice ao2 (d + 1) c2).ownBlock = some b → S b) := ⟨hgb2, hsb⟩
    clear hgb hlb hgb2 hsb
    refine hK.out _ _ (fun _ => hcb) ?_
    clear hK K
    (try simp only [Act.put, List.setIfInBounds_toArray, List.set_cons_zero, List.set_cons_succ])
    refine anyT_one (i := 21) (o := ?_) (by kernel_rfl) ?_ (fun K hK => ?_)
    rotate_left
    · simp only [List.getElem?_toArray, List.getElem?_cons_succ, List.getElem?_cons_zero]; rfl
    go_simp
    refine hK.out _ _ (fun _ => hcb) ?_
    clear hK K
    (try simp only [Act.put, List.setIfInBounds_toArray, List.set_cons_zero, List.set_cons_succ])
    refine anyT_one (i := 22) (o := ?_) (by kernel_rfl) ?_ (fun K hK => ?_)
    rotate_left
    · simp only [List.getElem?_toArray, List.getElem?_cons_succ, List.getElem?_cons_zero]; rfl
    go_simp
    refine hK.out _ _ (fun _ => hcb) ?_
    clear hK K
    (try simp only [Act.put, List.setIfInBounds_toArray, List.set_cons_zero, List.set_cons_succ])
    refine anyT_one (i := 23) (o := ?_) (by kernel_rfl) ?_ (fun K hK => ?_)
    rotate_left
    · simp only [List.getElem?_toArray, List.getElem?_cons_succ, List.getElem?_cons_zero]; rfl
    go_simp
    refine hK.out _ _ (fun h => absurd rfl h) ?_
    clear hK K
    (try simp only [Act.put, List.setIfInBounds_toArray, List.set_cons_zero, List.set_cons_succ])
    refine anyT_done (by kernel_rfl) ?_ _
    refine NoPanic.normal ?_
    exact HK.out _ _ _ _ _ _ _ _ _ _ _ _ _ _ _ _ _ _ _ _ _ _ _ ao2 c2 wb owb HB.out.1 HB.out.2
  · go_simp
    have hHeld2 : (wc.alloc (.cells #[.int .u64 lim] 58)).drew.cell? ⟨P, 2, none⟩ = some (.slice aK m cK) := (World.cell?_alloc_lt _ _ _ hPl).trans cell0
    refine hK.out _ _ (fun _ => hHeld2) ?_
    clear hK K
    (try simp only [Act.put, List.setIfInBounds_toArray, List.set_cons_zero, List.set_cons_succ])
    refine anyT_one (i := 16) (o := ?_) (by kernel_rfl) ?_ (fun K hK => ?_)
    rotate_left
    · simp only [List.getElem?_toArray, List.getElem?_cons_succ, List.getElem?_cons_zero]; rfl
    refine step_copy_rows (by rfl) _ _ 57 (by rfl) 58 Try.underlying57 siz58 _ _ _ _ _ _ (by rfl) (by rfl) (.slice aK m cK) m xk ?_ 0 cs ?_ (by omega) ?_ H1C.out ?_
    · first | exact HOK.out | exact HOK.out.alloc _
    · rw [hl1]; exact (Nat.min_eq_left (by omega)).symm
    · exact copy_pos (by first | exact HOK.out | exact HOK.out.alloc _) (by omega) hl1 HL2.out
    intro wa owa hga
    have hnb : wa.heap[wc.heap.size]? = some (.cells #[.int .u64 lim] 58 (0, 0)) := (hga.block wc.heap.size (by simp) (fun e => Nat.lt_irrefl _ (HOK.out.lt _ e.symm).2)).trans (heap_alloc_new wc _)
    obtain ⟨hca, hfa0, ocut, hga2⟩ := after_copy (wc := wc) (grown_drew' (World.grownBy_alloc _ _ _)) hga pK hPl cell0 fro0 owa (by omega) HL3.out
    have HGA : Hid (wc.grownBy wa (Value.slice aK m cK).ownBlock) := hga2
    have HNB : Hid (wa.heap[wc.heap.size]? = some (.cells #[.int .u64 lim] 58 (0, 0))) := hnb
    clear hga owa hga2 HOK hnb
    refine hK.out _ _ (fun _ => hca) ?_
    clear hK K
    (try simp only [Act.put, List.setIfInBounds_toArray, List.set_cons_zero, List.set_cons_succ])
    refine anyT_take (i := 17) (oi := ?_) (v := ?_) ?_ (by kernel_rfl) (by kernel_rfl) (by kernel_rfl) (by kernel_rfl) (fun _ _ _ h => h) (Or.inl ⟨?_, ?_⟩) hca ?_
    rotate_left 2
    · simp only [List.getElem?_toArray, List.getElem?_cons_succ, List.getElem?_cons_zero]; rfl
    · rfl
    · intro w0 hSw; (try dsimp only at hSw); go_simp <;> with_reducible rfl
    (try simp only [Act.put, List.setIfInBounds_toArray, List.set_cons_zero, List.set_cons_succ])
    refine anyT_one (i := 20) (o := ?_) (by kernel_rfl) ?_ (fun K hK => ?_)
    rotate_left
    · simp only [List.getElem?_toArray, List.getElem?_cons_succ, List.getElem?_cons_zero]; rfl
    refine step_append_rows (by rfl) _ _ 57 (by rfl) 58 (.int .u64 0) 8 Try.underlying57 info58 rfl (.slice aK d cK) d cs (by first | rfl | (simp [Act.eval]; done)) ?_ _ 1 1 [.int .u64 lim] (by rfl) ?_ rfl ?_ ?_ ?_ ?_ ?_
    · first | exact ocut | exact ocut.alloc _
    · intro h; cases h
    · intro ad had; cases had; exact World.news_of_block HNB.out
    · intro u hu; simp at hu; subst hu; rfl
    · unfold maxLen; omega
    · omega
    intro ao2 c2 wb owb hgb hlb
    obtain ⟨hcb, hfb, hgb2, hsb⟩ := after_append (v2 := .slice ao2 (d + 1) c2) HGA.out (World.grownBy.refl _ _) hgb pK hPl cell0 fro0 hlb HSK.out HS.out
    have HB : Hid (wc.grownBy wb (Value.slice aK m cK).ownBlock ∧ ∀ b, (Value.slice ao2 (d + 1) c2).ownBlock = some b → S b) := ⟨hgb2, hsb⟩
    clear hgb hlb hgb2 hsb
    refine hK.out _ _ (fun _ => hcb) ?_
    clear hK K
    (try simp only [Act.put, List.setIfInBounds_toArray, List.set_cons_zero, List.set_cons_succ])
    refine anyT_one (i := 21) (o := ?_) (by kernel_rfl) ?_ (fun K hK => ?_)
    rotate_left
    · simp only [List.getElem?_toArray, List.getElem?_cons_succ, List.getElem?_cons_zero]; rfl
    go_simp
    refine hK.out _ _ (fun _ => hcb) ?_
    clear hK K
    (try simp only [Act.put, List.setIfInBounds_toArray, List.set_cons_zero, List.set_cons_succ])
    refine anyT_one (i := 22) (o := ?_) (by kernel_rfl) ?_ (fun K hK => ?_)
    rotate_left
    · simp only [List.getElem?_toArray, List.getElem?_cons_succ, List.getElem?_cons_zero]; rfl
    go_simp
    refine hK.out _ _ (fun _ => hcb) ?_
    clear hK K
    (try simp only [Act.put, List.setIfInBounds_toArray, List.set_cons_zero, List.set_cons_succ])
    refine anyT_one (i := 23) (o := ?_) (by kernel_rfl) ?_ (fun K hK => ?_)
    rotate_left
    · simp only [List.getElem?_toArray, List.getElem?_cons_succ, List.getElem?_cons_zero]; rfl
    go_simp
    refine hK.out _ _ (fun h => absurd rfl h) ?_
    clear hK K
    (try simp only [Act.put, List.setIfInBounds_toArray, List.set_cons_zero, List.set_cons_succ])
    refine anyT_done (by kernel_rfl) ?_ _
    refine NoPanic.normal ?_
    exact HK.out _ _ _ _ _ _ _ _ _ _ _ _ _ _ _ _ _ _ _ _ _ _ _ ao2 c2 wb owb HB.out.1 HB.out.2
end Go.Proofs.Qxb6600123a
