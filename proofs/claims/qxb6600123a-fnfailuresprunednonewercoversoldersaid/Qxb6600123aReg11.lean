/-
  Seat b6600123a: 'f.keys[kept] = f.keys[j]': region 11 of (*failures).add, in whatever order.
-/
import Derived.Test.Qxb6600123aAddBase
namespace Go.Proofs.Qxb6600123a
open Go.RowKit Go.Deep
set_option linter.unusedVariables false
set_option linter.unusedSimpArgs false
attribute [local go_sem ↓] Go.wp_at_zero Go.wp_at_succ

set_option maxRecDepth 1000000 in
set_option maxHeartbeats 4000000 in
theorem reg11 (u1 u2 u3 u4 u5 u6 u7 u8 u9 u10 u11 u14 u15 u16 u17 u18 u19 u20 u21 u22 u23 u24 u25 u26 u27 u28 u29 u30 u31 u32 u33 u34 u35 u36 u37 u38 u39 u40 u41 u42 u43 u44 u45 u46 u47 u48 u49 u50 u51 u52 u53 u54 u55 u56 u57 u58 u59 u60 u61 u62 u63 u64 u65 u66 u67 u68 u69 u70 u71 u72 u73 u74 u75 u76 u77 u78 u79 u80 u81 u82 u83 u84 u85 u86 u87 u88 u89 u90 u91 u92 u93 u94 u95 u96 u97 u98 u99 u100 u101 u102 u103 u104 u105 u106 u107 u108 u109 u110 u111 u112 u113 u114 u115 u116 u117 u118 u119 u120 u121 u122 u123 u124 u125 u126 u127 u128 u129 u130 u131 u132 u133 u134 u135 u136 u137 u138 u139 u140 u141 u142 u143 u144 u145 u146 u147 u148 u149 u150 u151 u152 u153 u154 u155 u156 u157 u158 u159 u160 u161 u162 u163 u164 u165 u166 u167 u168 u169 u170 u171 u172 u173 u174 u175 u176 u177 u178 u179 u180 u181 u182 u183 u184 u185 u186 u187 u188 u189 u190 u191 u192 u193 u194 u195 u196 u197 u198 u199 u200 u201 u202 : Value) (P g c j m cap : Nat) (x : ByteArray) (old : Value) (wc : World) (K : Act → World → Prop) (Q0 : Exit → Act → World → Prop)
    (cell0 : wc.cell? ⟨P, 0, none⟩ = some (.slice (some ⟨g, 0, none⟩) m cap)) (cellj : wc.cell? ⟨g, j, none⟩ = some (.string x)) (cellc : wc.cell? ⟨g, c, none⟩ = some old) (froc : wc.frozen? ⟨g, c, none⟩ = false) (hcm : c < m) (hjm : j < m)
    (hK : ∀ (v74 v75 v76 v77 v78 v79 v80 v81 v82 v83 v84 v85 v86 : Value) ,  K ⟨#[.pointer (some ⟨P, 0, none⟩), u1, u2, u3, u4, u5, u6, u7, u8, u9, u10, u11, .int .i64 (c : Nat), .int .i64 (j : Nat), u14, u15, u16, u17, u18, u19, u20, u21, u22, u23, u24, u25, u26, u27, u28, u29, u30, u31, u32, u33, u34, u35, u36, u37, u38, u39, u40, u41, u42, u43, u44, u45, u46, u47, u48, u49, u50, u51, u52, u53, u54, u55, u56, u57, u58, u59, u60, u61, u62, u63, u64, u65, u66, u67, u68, u69, u70, u71, u72, u73, v74, v75, v76, v77, v78, v79, v80, v81, v82, v83, v84, v85, v86, u87, u88, u89, u90, u91, u92, u93, u94, u95, u96, u97, u98, u99, u100, u101, u102, u103, u104, u105, u106, u107, u108, u109, u110, u111, u112, u113, u114, u115, u116, u117, u118, u119, u120, u121, u122, u123, u124, u125, u126, u127, u128, u129, u130, u131, u132, u133, u134, u135, u136, u137, u138, u139, u140, u141, u142, u143, u144, u145, u146, u147, u148, u149, u150, u151, u152, u153, u154, u155, u156, u157, u158, u159, u160, u161, u162, u163, u164, u165, u166, u167, u168, u169, u170, u171, u172, u173, u174, u175, u176, u177, u178, u179, u180, u181, u182, u183, u184, u185, u186, u187, u188, u189, u190, u191, u192, u193, u194, u195, u196, u197, u198, u199, u200, u201, u202], []⟩ ((wc.setCell ⟨g, c, none⟩ (.string x)).drew)) :
    Code.wp Try.prog ((Try.f42.body.bind (findReg 11)).getD .skip) (Exit.then K Q0) ⟨#[.pointer (some ⟨P, 0, none⟩), u1, u2, u3, u4, u5, u6, u7, u8, u9, u10, u11, .int .i64 (c : Nat), .int .i64 (j : Nat), u14, u15, u16, u17, u18, u19, u20, u21, u22, u23, u24, u25, u26, u27, u28, u29, u30, u31, u32, u33, u34, u35, u36, u37, u38, u39, u40, u41, u42, u43, u44, u45, u46, u47, u48, u49, u50, u51, u52, u53, u54, u55, u56, u57, u58, u59, u60, u61, u62, u63, u64, u65, u66, u67, u68, u69, u70, u71, u72, u73, u74, u75, u76, u77, u78, u79, u80, u81, u82, u83, u84, u85, u86, u87, u88, u89, u90, u91, u92, u93, u94, u95, u96, u97, u98, u99, u100, u101, u102, u103, u104, u105, u106, u107, u108, u109, u110, u111, u112, u113, u114, u115, u116, u117, u118, u119, u120, u121, u122, u123, u124, u125, u126, u127, u128, u129, u130, u131, u132, u133, u134, u135, u136, u137, u138, u139, u140, u141, u142, u143, u144, u145, u146, u147, u148, u149, u150, u151, u152, u153, u154, u155, u156, u157, u158, u159, u160, u161, u162, u163, u164, u165, u166, u167, u168, u169, u170, u171, u172, u173, u174, u175, u176, u177, u178, u179, u180, u181, u182, u183, u184, u185, u186, u187, u188, u189, u190, u191, u192, u193, u194, u195, u196, u197, u198, u199, u200, u201, u202], []⟩ wc := by
  conv => arg 2; whnf
  have HK : Hid _ := hK
  clear hK
  have i1 : (c : Int) < (m : Int) := by omega
  have i2 : (j : Int) < (m : Int) := by omega
  refine wp_region_noPanic ?_
  refine anyT_start (S := fun w' => w'.cell? ⟨P, 0, none⟩ = some (.slice (some ⟨g, 0, none⟩) m cap) ∧ w'.cell? ⟨g, j, none⟩ = some (.string x)) (T := 13) (by kernel_rfl) ?_
  have hHeld : wc.drew.cell? ⟨P, 0, none⟩ = some (.slice (some ⟨g, 0, none⟩) m cap) ∧ wc.drew.cell? ⟨g, j, none⟩ = some (.string x) := ⟨cell0, cellj⟩
  refine anyT_take (i := 0) (oi := ?_) (v := ?_) ?_ (by kernel_rfl) (by kernel_rfl) (by kernel_rfl) (by kernel_rfl) (fun _ _ _ h => h) (Or.inl ⟨?_, ?_⟩) hHeld ?_
  rotate_left 2
  · simp only [List.getElem?_toArray, List.getElem?_cons_succ, List.getElem?_cons_zero]; rfl
  · rfl
  · intro w0 hSw; (try dsimp only at hSw); obtain ⟨hS1, hS2⟩ := hSw; go_simp <;> with_reducible rfl
  (try simp only [Act.put, List.setIfInBounds_toArray, List.set_cons_zero, List.set_cons_succ])
  refine anyT_take (i := 1) (oi := ?_) (v := ?_) ?_ (by kernel_rfl) (by kernel_rfl) (by kernel_rfl) (by kernel_rfl) (fun _ _ _ h => h) (Or.inl ⟨?_, ?_⟩) hHeld ?_
  rotate_left 2
  · simp only [List.getElem?_toArray, List.getElem?_cons_succ, List.getElem?_cons_zero]; rfl
  · rfl
  · intro w0 hSw; (try dsimp only at hSw); obtain ⟨hS1, hS2⟩ := hSw; go_simp <;> with_reducible rfl
  (try simp only [Act.put, List.setIfInBounds_toArray, List.set_cons_zero, List.set_cons_succ])
  refine anyT_take (i := 2) (oi := ?_) (v := ?_) ?_ (by kernel_rfl) (by kernel_rfl) (by kernel_rfl) (by kernel_rfl) (fun _ _ _ h => h) (Or.inl ⟨?_, ?_⟩) hHeld ?_
  rotate_left 2
  · simp only [List.getElem?_toArray, List.getElem?_cons_succ, List.getElem?_cons_zero]; rfl
  · rfl
  · intro w0 hSw; (try dsimp only at hSw); obtain ⟨hS1, hS2⟩ := hSw; go_simp <;> with_reducible rfl
  (try simp only [Act.put, List.setIfInBounds_toArray, List.set_cons_zero, List.set_cons_succ])
  refine anyT_take (i := 3) (oi := ?_) (v := ?_) ?_ (by kernel_rfl) (by kernel_rfl) (by kernel_rfl) (by kernel_rfl) (fun _ _ _ h => h) (Or.inl ⟨?_, ?_⟩) hHeld ?_
  rotate_left 2
  · simp only [List.getElem?_toArray, List.getElem?_cons_succ, List.getElem?_cons_zero]; rfl
  · rfl
  · intro w0 hSw; (try dsimp only at hSw); obtain ⟨hS1, hS2⟩ := hSw; go_simp <;> with_reducible rfl
  (try simp only [Act.put, List.setIfInBounds_toArray, List.set_cons_zero, List.set_cons_succ])
  refine anyT_take (i := 4) (oi := ?_) (v := ?_) ?_ (by kernel_rfl) (by kernel_rfl) (by kernel_rfl) (by kernel_rfl) (fun _ _ _ h => h) (Or.inl ⟨?_, ?_⟩) hHeld ?_
  rotate_left 2
  · simp only [List.getElem?_toArray, List.getElem?_cons_succ, List.getElem?_cons_zero]; rfl
  · rfl
  · intro w0 hSw; (try dsimp only at hSw); obtain ⟨hS1, hS2⟩ := hSw; go_simp <;> with_reducible rfl
  (try simp only [Act.put, List.setIfInBounds_toArray, List.set_cons_zero, List.set_cons_succ])
  refine anyT_take (i := 5) (oi := ?_) (v := ?_) ?_ (by kernel_rfl) (by kernel_rfl) (by kernel_rfl) (by kernel_rfl) (fun _ _ _ h => h) (Or.inl ⟨?_, ?_⟩) hHeld ?_
  rotate_left 2
  · simp only [List.getElem?_toArray, List.getElem?_cons_succ, List.getElem?_cons_zero]; rfl
  · rfl
  · intro w0 hSw; (try dsimp only at hSw); obtain ⟨hS1, hS2⟩ := hSw; go_simp <;> with_reducible rfl
  (try simp only [Act.put, List.setIfInBounds_toArray, List.set_cons_zero, List.set_cons_succ])
  refine anyT_take (i := 6) (oi := ?_) (v := ?_) ?_ (by kernel_rfl) (by kernel_rfl) (by kernel_rfl) (by kernel_rfl) (fun _ _ _ h => h) (Or.inl ⟨?_, ?_⟩) hHeld ?_
  rotate_left 2
  · simp only [List.getElem?_toArray, List.getElem?_cons_succ, List.getElem?_cons_zero]; rfl
  · rfl
  · intro w0 hSw; (try dsimp only at hSw); obtain ⟨hS1, hS2⟩ := hSw; go_simp <;> with_reducible rfl
  (try simp only [Act.put, List.setIfInBounds_toArray, List.set_cons_zero, List.set_cons_succ])
  refine anyT_take (i := 7) (oi := ?_) (v := ?_) ?_ (by kernel_rfl) (by kernel_rfl) (by kernel_rfl) (by kernel_rfl) (fun _ _ _ h => h) (Or.inl ⟨?_, ?_⟩) hHeld ?_
  rotate_left 2
  · simp only [List.getElem?_toArray, List.getElem?_cons_succ, List.getElem?_cons_zero]; rfl
  · rfl
  · intro w0 hSw; (try dsimp only at hSw); obtain ⟨hS1, hS2⟩ := hSw; go_simp <;> with_reducible rfl
  (try simp only [Act.put, List.setIfInBounds_toArray, List.set_cons_zero, List.set_cons_succ])
  refine anyT_take (i := 8) (oi := ?_) (v := ?_) ?_ (by kernel_rfl) (by kernel_rfl) (by kernel_rfl) (by kernel_rfl) (fun _ _ _ h => h) (Or.inl ⟨?_, ?_⟩) hHeld ?_
  rotate_left 2
  · simp only [List.getElem?_toArray, List.getElem?_cons_succ, List.getElem?_cons_zero]; rfl
  · rfl
  · intro w0 hSw; (try dsimp only at hSw); obtain ⟨hS1, hS2⟩ := hSw; go_simp <;> with_reducible rfl
  (try simp only [Act.put, List.setIfInBounds_toArray, List.set_cons_zero, List.set_cons_succ])
  refine anyT_take (i := 9) (oi := ?_) (v := ?_) ?_ (by kernel_rfl) (by kernel_rfl) (by kernel_rfl) (by kernel_rfl) (fun _ _ _ h => h) (Or.inl ⟨?_, ?_⟩) hHeld ?_
  rotate_left 2
  · simp only [List.getElem?_toArray, List.getElem?_cons_succ, List.getElem?_cons_zero]; rfl
  · rfl
  · intro w0 hSw; (try dsimp only at hSw); obtain ⟨hS1, hS2⟩ := hSw; go_simp <;> with_reducible rfl
  (try simp only [Act.put, List.setIfInBounds_toArray, List.set_cons_zero, List.set_cons_succ])
  refine anyT_take (i := 10) (oi := ?_) (v := ?_) ?_ (by kernel_rfl) (by kernel_rfl) (by kernel_rfl) (by kernel_rfl) (fun _ _ _ h => h) (Or.inl ⟨?_, ?_⟩) hHeld ?_
  rotate_left 2
  · simp only [List.getElem?_toArray, List.getElem?_cons_succ, List.getElem?_cons_zero]; rfl
  · rfl
  · intro w0 hSw; (try dsimp only at hSw); obtain ⟨hS1, hS2⟩ := hSw; go_simp <;> with_reducible rfl
  (try simp only [Act.put, List.setIfInBounds_toArray, List.set_cons_zero, List.set_cons_succ])
  refine anyT_take (i := 11) (oi := ?_) (v := ?_) ?_ (by kernel_rfl) (by kernel_rfl) (by kernel_rfl) (by kernel_rfl) (fun _ _ _ h => h) (Or.inl ⟨?_, ?_⟩) hHeld ?_
  rotate_left 2
  · simp only [List.getElem?_toArray, List.getElem?_cons_succ, List.getElem?_cons_zero]; rfl
  · rfl
  · intro w0 hSw; (try dsimp only at hSw); obtain ⟨hS1, hS2⟩ := hSw; go_simp <;> with_reducible rfl
  (try simp only [Act.put, List.setIfInBounds_toArray, List.set_cons_zero, List.set_cons_succ])
  refine anyT_take (i := 12) (oi := ?_) (v := ?_) ?_ (by kernel_rfl) (by kernel_rfl) (by kernel_rfl) (by kernel_rfl) (fun _ _ _ h => h) (Or.inl ⟨?_, ?_⟩) hHeld ?_
  rotate_left 2
  · simp only [List.getElem?_toArray, List.getElem?_cons_succ, List.getElem?_cons_zero]; rfl
  · rfl
  · intro w0 hSw; (try dsimp only at hSw); obtain ⟨hS1, hS2⟩ := hSw; go_simp <;> with_reducible rfl
  (try simp only [Act.put, List.setIfInBounds_toArray, List.set_cons_zero, List.set_cons_succ])
  refine anyT_one (i := 13) (o := ?_) (by kernel_rfl) ?_ (fun K hK => ?_)
  rotate_left
  · simp only [List.getElem?_toArray, List.getElem?_cons_succ, List.getElem?_cons_zero]; rfl
  go_simp
  refine hK.out _ _ (fun h => absurd rfl h) ?_
  clear hK K
  (try simp only [Act.put, List.setIfInBounds_toArray, List.set_cons_zero, List.set_cons_succ])
  refine anyT_done (by kernel_rfl) ?_ _
  refine NoPanic.normal ?_
  exact HK.out _ _ _ _ _ _ _ _ _ _ _ _ _
end Go.Proofs.Qxb6600123a
