/-
  Seat b6600123a: 'copy(f.need[kept*k:], f.need[j*k:(j+1)*k])': region 12 of (*failures).add, in whatever order.
-/
import Derived.Test.Qxb6600123aAddBase
namespace Go.Proofs.Qxb6600123a
open Go.RowKit Go.Deep
set_option linter.unusedVariables false
set_option linter.unusedSimpArgs false
attribute [local go_sem ↓] Go.wp_at_zero Go.wp_at_succ

set_option maxRecDepth 1000000 in
set_option maxHeartbeats 4000000 in
theorem reg12 (u1 u2 u3 u4 u5 u6 u7 u8 u9 u10 u14 u15 u16 u17 u18 u19 u20 u21 u22 u23 u24 u25 u26 u27 u28 u29 u30 u31 u32 u33 u34 u35 u36 u37 u38 u39 u40 u41 u42 u43 u44 u45 u46 u47 u48 u49 u50 u51 u52 u53 u54 u55 u56 u57 u58 u59 u60 u61 u62 u63 u64 u65 u66 u67 u68 u69 u70 u71 u72 u73 u74 u75 u76 u77 u78 u79 u80 u81 u82 u83 u84 u85 u86 u87 u88 u89 u90 u91 u92 u93 u94 u95 u96 u97 u98 u99 u100 u101 u102 u103 u104 u105 u106 u107 u108 u109 u110 u111 u112 u113 u114 u115 u116 u117 u118 u119 u120 u121 u122 u123 u124 u125 u126 u127 u128 u129 u130 u131 u132 u133 u134 u135 u136 u137 u138 u139 u140 u141 u142 u143 u144 u145 u146 u147 u148 u149 u150 u151 u152 u153 u154 u155 u156 u157 u158 u159 u160 u161 u162 u163 u164 u165 u166 u167 u168 u169 u170 u171 u172 u173 u174 u175 u176 u177 u178 u179 u180 u181 u182 u183 u184 u185 u186 u187 u188 u189 u190 u191 u192 u193 u194 u195 u196 u197 u198 u199 u200 u201 u202 : Value) (P c j k ck jk jk1 mk cN : Nat) (aN : Option Addr) (xn cs : List Value) (wc : World) (K : Act → World → Prop) (Q0 : Exit → Act → World → Prop)
    (oK : wc.ownsRow 0 3 1 (.slice aN mk cN) mk xn) (pK : some P ≠ (Value.slice aN mk cN).ownBlock) (cell0 : wc.cell? ⟨P, 1, none⟩ = some (.slice aN mk cN)) (h1c : ∀ u ∈ cs, u.oneCell' = true) (hcs : ∀ i u, cs[i]? = some u → xn[jk + i]? = some u) (hl : cs.length = k) (hj1 : jk1 ≤ jk + k) (hj2 : jk + k ≤ jk1) (hcj : ck ≤ jk) (hjm : jk1 ≤ mk) (hm : mk ≤ 1048576) (hj : j ≤ 65536)
    (hw1 : IntKind.i64.wrap ((c : Int) * (k : Int)) = (ck : Int)) (hw2 : IntKind.i64.wrap ((j : Int) * (k : Int)) = (jk : Int)) (hw3 : IntKind.i64.wrap (((j : Int) + 1) * (k : Int)) = (jk1 : Int)) (hw4 : IntKind.i64.wrap ((j : Int) + 1) = (j : Int) + 1)
    (hK : ∀ (v87 v88 v89 v90 v91 v92 v93 v94 v95 v96 v97 v98 v99 v100 v101 v102 v103 v104 v105 v106 v107 : Value) (wa : World), wa.ownsRow 0 3 1 (.slice aN mk cN) mk (splice xn ck cs) → wc.grownBy wa (Value.slice aN mk cN).ownBlock → K ⟨#[.pointer (some ⟨P, 0, none⟩), u1, u2, u3, u4, u5, u6, u7, u8, u9, u10, .int .i64 (k : Nat), .int .i64 (c : Nat), .int .i64 (j : Nat), u14, u15, u16, u17, u18, u19, u20, u21, u22, u23, u24, u25, u26, u27, u28, u29, u30, u31, u32, u33, u34, u35, u36, u37, u38, u39, u40, u41, u42, u43, u44, u45, u46, u47, u48, u49, u50, u51, u52, u53, u54, u55, u56, u57, u58, u59, u60, u61, u62, u63, u64, u65, u66, u67, u68, u69, u70, u71, u72, u73, u74, u75, u76, u77, u78, u79, u80, u81, u82, u83, u84, u85, u86, v87, v88, v89, v90, v91, v92, v93, v94, v95, v96, v97, v98, v99, v100, v101, v102, v103, v104, v105, v106, v107, u108, u109, u110, u111, u112, u113, u114, u115, u116, u117, u118, u119, u120, u121, u122, u123, u124, u125, u126, u127, u128, u129, u130, u131, u132, u133, u134, u135, u136, u137, u138, u139, u140, u141, u142, u143, u144, u145, u146, u147, u148, u149, u150, u151, u152, u153, u154, u155, u156, u157, u158, u159, u160, u161, u162, u163, u164, u165, u166, u167, u168, u169, u170, u171, u172, u173, u174, u175, u176, u177, u178, u179, u180, u181, u182, u183, u184, u185, u186, u187, u188, u189, u190, u191, u192, u193, u194, u195, u196, u197, u198, u199, u200, u201, u202], []⟩ wa) :
    Code.wp Try.prog ((Try.f42.body.bind (findReg 12)).getD .skip) (Exit.then K Q0) ⟨#[.pointer (some ⟨P, 0, none⟩), u1, u2, u3, u4, u5, u6, u7, u8, u9, u10, .int .i64 (k : Nat), .int .i64 (c : Nat), .int .i64 (j : Nat), u14, u15, u16, u17, u18, u19, u20, u21, u22, u23, u24, u25, u26, u27, u28, u29, u30, u31, u32, u33, u34, u35, u36, u37, u38, u39, u40, u41, u42, u43, u44, u45, u46, u47, u48, u49, u50, u51, u52, u53, u54, u55, u56, u57, u58, u59, u60, u61, u62, u63, u64, u65, u66, u67, u68, u69, u70, u71, u72, u73, u74, u75, u76, u77, u78, u79, u80, u81, u82, u83, u84, u85, u86, u87, u88, u89, u90, u91, u92, u93, u94, u95, u96, u97, u98, u99, u100, u101, u102, u103, u104, u105, u106, u107, u108, u109, u110, u111, u112, u113, u114, u115, u116, u117, u118, u119, u120, u121, u122, u123, u124, u125, u126, u127, u128, u129, u130, u131, u132, u133, u134, u135, u136, u137, u138, u139, u140, u141, u142, u143, u144, u145, u146, u147, u148, u149, u150, u151, u152, u153, u154, u155, u156, u157, u158, u159, u160, u161, u162, u163, u164, u165, u166, u167, u168, u169, u170, u171, u172, u173, u174, u175, u176, u177, u178, u179, u180, u181, u182, u183, u184, u185, u186, u187, u188, u189, u190, u191, u192, u193, u194, u195, u196, u197, u198, u199, u200, u201, u202], []⟩ wc := by
  conv => arg 2; whnf
  have HK : Hid _ := hK
  have nK := own_nil oK
  have HOK : Hid (wc.ownsRow 0 3 1 (.slice aN mk cN) mk xn) := oK
  have H1C : Hid (∀ u ∈ cs, u.oneCell' = true) := h1c
  have HCS : Hid (∀ i u, cs[i]? = some u → xn[jk + i]? = some u) := hcs
  clear hK oK h1c hcs
  have i1 : (ck : Int) ≤ (mk : Int) := by omega
  have i2 : (jk : Int) ≤ (jk1 : Int) := by omega
  have i3 : (jk1 : Int) ≤ (cN : Int) := by omega
  have i4 : (0 : Int) ≤ (ck : Int) := by omega
  have i5 : (0 : Int) ≤ (jk : Int) := by omega
  have hjd : jk1 - jk = k := by omega
  refine wp_region_noPanic ?_
  refine anyT_start (S := fun w' => w'.cell? ⟨P, 1, none⟩ = some (.slice aN mk cN)) (T := 99) (by kernel_rfl) ?_
  have hHeld : wc.drew.cell? ⟨P, 1, none⟩ = some (.slice aN mk cN) := cell0
  refine anyT_take (i := 0) (oi := ?_) (v := ?_) ?_ (by kernel_rfl) (by kernel_rfl) (by kernel_rfl) (by kernel_rfl) (fun _ _ _ h => h) (Or.inl ⟨?_, ?_⟩) hHeld ?_
  rotate_left 2
  · simp only [List.getElem?_toArray, List.getElem?_cons_succ, List.getElem?_cons_zero]; rfl
  · rfl
  · intro w0 hSw; (try dsimp only at hSw); go_simp <;> with_reducible rfl
  (try simp only [Act.put, List.setIfInBounds_toArray, List.set_cons_zero, List.set_cons_succ])
  refine anyT_take (i := 1) (oi := ?_) (v := ?_) ?_ (by kernel_rfl) (by kernel_rfl) (by kernel_rfl) (by kernel_rfl) (fun _ _ _ h => h) (Or.inl ⟨?_, ?_⟩) hHeld ?_
  rotate_left 2
  · simp only [List.getElem?_toArray, List.getElem?_cons_succ, List.getElem?_cons_zero]; rfl
  · rfl
  · intro w0 hSw; (try dsimp only at hSw); go_simp <;> with_reducible rfl
  (try simp only [Act.put, List.setIfInBounds_toArray, List.set_cons_zero, List.set_cons_succ])
  refine anyT_take (i := 2) (oi := ?_) (v := ?_) ?_ (by kernel_rfl) (by kernel_rfl) (by kernel_rfl) (by kernel_rfl) (fun _ _ _ h => h) (Or.inl ⟨?_, ?_⟩) hHeld ?_
  rotate_left 2
  · simp only [List.getElem?_toArray, List.getElem?_cons_succ, List.getElem?_cons_zero]; rfl
  · rfl
  · intro w0 hSw; (try dsimp only at hSw); go_simp <;> with_reducible rfl
  (try simp only [Act.put, List.setIfInBounds_toArray, List.set_cons_zero, List.set_cons_succ])
  refine anyT_take (i := 3) (oi := ?_) (v := ?_) ?_ (by kernel_rfl) (by kernel_rfl) (by kernel_rfl) (by kernel_rfl) (fun _ _ _ h => h) (Or.inl ⟨?_, ?_⟩) hHeld ?_
  rotate_left 2
  · simp only [List.getElem?_toArray, List.getElem?_cons_succ, List.getElem?_cons_zero]; rfl
  · rfl
  · intro w0 hSw; (try dsimp only at hSw); go_simp <;> with_reducible rfl
  (try simp only [Act.put, List.setIfInBounds_toArray, List.set_cons_zero, List.set_cons_succ])
  refine anyT_take (i := 4) (oi := ?_) (v := ?_) ?_ (by kernel_rfl) (by kernel_rfl) (by kernel_rfl) (by kernel_rfl) (fun _ _ _ h => h) (Or.inl ⟨?_, ?_⟩) hHeld ?_
  rotate_left 2
  · simp only [List.getElem?_toArray, List.getElem?_cons_succ, List.getElem?_cons_zero]; rfl
  · rfl
  · intro w0 hSw; (try dsimp only at hSw); go_simp <;> with_reducible rfl
  (try simp only [Act.put, List.setIfInBounds_toArray, List.set_cons_zero, List.set_cons_succ])
  refine anyT_take (i := 5) (oi := ?_) (v := ?_) ?_ (by kernel_rfl) (by kernel_rfl) (by kernel_rfl) (by kernel_rfl) (fun _ _ _ h => h) (Or.inl ⟨?_, ?_⟩) hHeld ?_
  rotate_left 2
  · simp only [List.getElem?_toArray, List.getElem?_cons_succ, List.getElem?_cons_zero]; rfl
  · rfl
  · intro w0 hSw; (try dsimp only at hSw); go_simp <;> with_reducible rfl
  (try simp only [Act.put, List.setIfInBounds_toArray, List.set_cons_zero, List.set_cons_succ])
  refine anyT_take (i := 6) (oi := ?_) (v := ?_) ?_ (by kernel_rfl) (by kernel_rfl) (by kernel_rfl) (by kernel_rfl) (fun _ _ _ h => h) (Or.inl ⟨?_, ?_⟩) hHeld ?_
  rotate_left 2
  · simp only [List.getElem?_toArray, List.getElem?_cons_succ, List.getElem?_cons_zero]; rfl
  · rfl
  · intro w0 hSw; (try dsimp only at hSw); go_simp <;> with_reducible rfl
  (try simp only [Act.put, List.setIfInBounds_toArray, List.set_cons_zero, List.set_cons_succ])
  refine anyT_take (i := 7) (oi := ?_) (v := ?_) ?_ (by kernel_rfl) (by kernel_rfl) (by kernel_rfl) (by kernel_rfl) (fun _ _ _ h => h) (Or.inl ⟨?_, ?_⟩) hHeld ?_
  rotate_left 2
  · simp only [List.getElem?_toArray, List.getElem?_cons_succ, List.getElem?_cons_zero]; rfl
  · rfl
  · intro w0 hSw; (try dsimp only at hSw); go_simp <;> with_reducible rfl
  (try simp only [Act.put, List.setIfInBounds_toArray, List.set_cons_zero, List.set_cons_succ])
  refine anyT_take (i := 8) (oi := ?_) (v := ?_) ?_ (by kernel_rfl) (by kernel_rfl) (by kernel_rfl) (by kernel_rfl) (fun _ _ _ h => h) (Or.inl ⟨?_, ?_⟩) hHeld ?_
  rotate_left 2
  · simp only [List.getElem?_toArray, List.getElem?_cons_succ, List.getElem?_cons_zero]; rfl
  · rfl
  · intro w0 hSw; (try dsimp only at hSw); go_simp <;> with_reducible rfl
  (try simp only [Act.put, List.setIfInBounds_toArray, List.set_cons_zero, List.set_cons_succ])
  refine anyT_take (i := 9) (oi := ?_) (v := ?_) ?_ (by kernel_rfl) (by kernel_rfl) (by kernel_rfl) (by kernel_rfl) (fun _ _ _ h => h) (Or.inl ⟨?_, ?_⟩) hHeld ?_
  rotate_left 2
  · simp only [List.getElem?_toArray, List.getElem?_cons_succ, List.getElem?_cons_zero]; rfl
  · rfl
  · intro w0 hSw; (try dsimp only at hSw); go_simp <;> with_reducible rfl
  (try simp only [Act.put, List.setIfInBounds_toArray, List.set_cons_zero, List.set_cons_succ])
  refine anyT_take (i := 10) (oi := ?_) (v := ?_) ?_ (by kernel_rfl) (by kernel_rfl) (by kernel_rfl) (by kernel_rfl) (fun _ _ _ h => h) (Or.inl ⟨?_, ?_⟩) hHeld ?_
  rotate_left 2
  · simp only [List.getElem?_toArray, List.getElem?_cons_succ, List.getElem?_cons_zero]; rfl
  · rfl
  · intro w0 hSw; (try dsimp only at hSw); go_simp <;> with_reducible rfl
  (try simp only [Act.put, List.setIfInBounds_toArray, List.set_cons_zero, List.set_cons_succ])
  refine anyT_take (i := 11) (oi := ?_) (v := ?_) ?_ (by kernel_rfl) (by kernel_rfl) (by kernel_rfl) (by kernel_rfl) (fun _ _ _ h => h) (Or.inl ⟨?_, ?_⟩) hHeld ?_
  rotate_left 2
  · simp only [List.getElem?_toArray, List.getElem?_cons_succ, List.getElem?_cons_zero]; rfl
  · rfl
  · intro w0 hSw; (try dsimp only at hSw); go_simp <;> with_reducible rfl
  (try simp only [Act.put, List.setIfInBounds_toArray, List.set_cons_zero, List.set_cons_succ])
  refine anyT_take (i := 12) (oi := ?_) (v := ?_) ?_ (by kernel_rfl) (by kernel_rfl) (by kernel_rfl) (by kernel_rfl) (fun _ _ _ h => h) (Or.inl ⟨?_, ?_⟩) hHeld ?_
  rotate_left 2
  · simp only [List.getElem?_toArray, List.getElem?_cons_succ, List.getElem?_cons_zero]; rfl
  · rfl
  · intro w0 hSw; (try dsimp only at hSw); go_simp <;> with_reducible rfl
  (try simp only [Act.put, List.setIfInBounds_toArray, List.set_cons_zero, List.set_cons_succ])
  refine anyT_take (i := 13) (oi := ?_) (v := ?_) ?_ (by kernel_rfl) (by kernel_rfl) (by kernel_rfl) (by kernel_rfl) (fun _ _ _ h => h) (Or.inl ⟨?_, ?_⟩) hHeld ?_
  rotate_left 2
  · simp only [List.getElem?_toArray, List.getElem?_cons_succ, List.getElem?_cons_zero]; rfl
  · rfl
  · intro w0 hSw; (try dsimp only at hSw); go_simp <;> with_reducible rfl
  (try simp only [Act.put, List.setIfInBounds_toArray, List.set_cons_zero, List.set_cons_succ])
  refine anyT_take (i := 14) (oi := ?_) (v := ?_) ?_ (by kernel_rfl) (by kernel_rfl) (by kernel_rfl) (by kernel_rfl) (fun _ _ _ h => h) (Or.inl ⟨?_, ?_⟩) hHeld ?_
  rotate_left 2
  · simp only [List.getElem?_toArray, List.getElem?_cons_succ, List.getElem?_cons_zero]; rfl
  · rfl
  · intro w0 hSw; (try dsimp only at hSw); go_simp <;> with_reducible rfl
  (try simp only [Act.put, List.setIfInBounds_toArray, List.set_cons_zero, List.set_cons_succ])
  refine anyT_take (i := 15) (oi := ?_) (v := ?_) ?_ (by kernel_rfl) (by kernel_rfl) (by kernel_rfl) (by kernel_rfl) (fun _ _ _ h => h) (Or.inl ⟨?_, ?_⟩) hHeld ?_
  rotate_left 2
  · simp only [List.getElem?_toArray, List.getElem?_cons_succ, List.getElem?_cons_zero]; rfl
  · rfl
  · intro w0 hSw; (try dsimp only at hSw); go_simp <;> with_reducible rfl
  (try simp only [Act.put, List.setIfInBounds_toArray, List.set_cons_zero, List.set_cons_succ])
  refine anyT_take (i := 16) (oi := ?_) (v := ?_) ?_ (by kernel_rfl) (by kernel_rfl) (by kernel_rfl) (by kernel_rfl) (fun _ _ _ h => h) (Or.inl ⟨?_, ?_⟩) hHeld ?_
  rotate_left 2
  · simp only [List.getElem?_toArray, List.getElem?_cons_succ, List.getElem?_cons_zero]; rfl
  · rfl
  · intro w0 hSw; (try dsimp only at hSw); go_simp <;> with_reducible rfl
  (try simp only [Act.put, List.setIfInBounds_toArray, List.set_cons_zero, List.set_cons_succ])
  refine anyT_take (i := 17) (oi := ?_) (v := ?_) ?_ (by kernel_rfl) (by kernel_rfl) (by kernel_rfl) (by kernel_rfl) (fun _ _ _ h => h) (Or.inl ⟨?_, ?_⟩) hHeld ?_
  rotate_left 2
  · simp only [List.getElem?_toArray, List.getElem?_cons_succ, List.getElem?_cons_zero]; rfl
  · rfl
  · intro w0 hSw; (try dsimp only at hSw); go_simp <;> with_reducible rfl
  (try simp only [Act.put, List.setIfInBounds_toArray, List.set_cons_zero, List.set_cons_succ])
  refine anyT_take (i := 18) (oi := ?_) (v := ?_) ?_ (by kernel_rfl) (by kernel_rfl) (by kernel_rfl) (by kernel_rfl) (fun _ _ _ h => h) (Or.inl ⟨?_, ?_⟩) hHeld ?_
  rotate_left 2
  · simp only [List.getElem?_toArray, List.getElem?_cons_succ, List.getElem?_cons_zero]; rfl
  · rfl
  · intro w0 hSw; (try dsimp only at hSw); go_simp <;> with_reducible rfl
  (try simp only [Act.put, List.setIfInBounds_toArray, List.set_cons_zero, List.set_cons_succ])
  refine anyT_take (i := 19) (oi := ?_) (v := ?_) ?_ (by kernel_rfl) (by kernel_rfl) (by kernel_rfl) (by kernel_rfl) (fun _ _ _ h => h) (Or.inl ⟨?_, ?_⟩) hHeld ?_
  rotate_left 2
  · simp only [List.getElem?_toArray, List.getElem?_cons_succ, List.getElem?_cons_zero]; rfl
  · rfl
  · intro w0 hSw; (try dsimp only at hSw); go_simp <;> with_reducible rfl
  (try simp only [Act.put, List.setIfInBounds_toArray, List.set_cons_zero, List.set_cons_succ])
  refine anyT_one (i := 20) (o := ?_) (by kernel_rfl) ?_ (fun K hK => ?_)
  rotate_left
  · simp only [List.getElem?_toArray, List.getElem?_cons_succ, List.getElem?_cons_zero]; rfl
  refine step_copy_rows (by rfl) _ _ 22 (by rfl) 3 Try.underlying22 siz3 _ _ _ _ _ _ (by rfl) (by rfl) (.slice aN mk cN) mk xn ?_ ck cs ?_ (by omega) ?_ H1C.out ?_
  · exact HOK.out
  · rw [hl]; exact (Nat.min_eq_left (by omega)).symm
  · intro hp
    obtain ⟨g, rfl, hlt, hcell⟩ := own_addr HOK.out (by omega)
    refine ⟨g, cN, rfl, ?_, ⟨g, jk, none⟩, ?_, fun i u hu => ?_⟩
    · rw [if_neg (by omega)]; simp [Addr.add_lit]
    · rw [if_neg (by omega)]; simp [Addr.add_lit]
    · have hi : i < cs.length := (List.getElem?_eq_some_iff.1 hu).1
      rw [Addr.add_lit]
      exact (hcell (jk + i) (by omega)).trans (HCS.out i u hu)
  intro wa owa hga
  have HGA : Hid (wc.grownBy wa (Value.slice aN mk cN).ownBlock) := grown_drew hga
  have hca : wa.cell? ⟨P, 1, none⟩ = some (.slice aN mk cN) := hga.cell cell0 pK
  clear hga
  refine hK.out _ _ (fun _ => hca) ?_
  clear hK K
  (try simp only [Act.put, List.setIfInBounds_toArray, List.set_cons_zero, List.set_cons_succ])
  refine anyT_done (by kernel_rfl) ?_ _
  refine NoPanic.normal ?_
  exact HK.out _ _ _ _ _ _ _ _ _ _ _ _ _ _ _ _ _ _ _ _ _ wa owa HGA.out
end Go.Proofs.Qxb6600123a
