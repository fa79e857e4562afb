/-
  Seat b6600123a: FnFailuresAddKeepsUncoveredAndNew: the walk of the loop that tells which of the old states stay.
-/
import Derived.Test.Qxb6600123aTail8
import Derived.Test.Qxb6600123aReg46
namespace Go.Proofs.Qxb6600123a
open Go.RowKit Go.Deep
set_option linter.unusedVariables false
set_option linter.unusedSimpArgs false
attribute [local go_sem ↓] Go.wp_at_zero Go.wp_at_succ

theorem make_cap22 (n : Nat) (hn : n ≤ 65536) (w : World) : (Instr.makeSlice 22 (.int .i64 0) (.int .i64 (n : Int))).run Try.prog w = .ok (.slice (some ⟨w.heap.size, 0, none⟩) 0 n) (w.alloc (.cells (madeCells #[.int .i64 0] n) 3)) := by
  obtain ⟨i, hi, hz, hs, hb⟩ := info_parts info3
  have hr := run_make (P := Try.prog) w 22 3 i (.int .i64 0) Try.underlying22 hi hz .i64 .i64 0 n (by omega) (by omega) (by rw [hb]; omega) (by omega)
  simp only [Int.toNat_natCast, hs, Nat.mul_one] at hr
  exact hr

theorem below_grown {B : Nat} {w w1 w2 : World} {row : Option Nat} (hb : Below B w w1) (hg : w1.grownBy w2 row) (hr : ∀ b, row = some b → B ≤ b) (hB : B ≤ w1.heap.size) : Below B w w2 :=
  ⟨hg.os.trans hb.os, hg.tape.trans hb.tape, hg.output.trans hb.output, Nat.le_trans hb.size hg.size, fun b hlt => (hg.block b (Nat.lt_of_lt_of_le hlt hB) (fun e => by have := hr b e.symm; omega)).trans (hb.block b hlt)⟩

set_option maxRecDepth 1000000 in
set_option maxHeartbeats 4000000 in
theorem mid8 (u9 u10 u11 u12 u13 u14 u15 u16 u17 u18 u19 u20 u23 u26 u27 u28 u29 u30 u31 u32 u33 u34 u35 u36 u37 u38 u39 u40 u41 u42 u43 u44 u45 u46 u47 u48 u49 u50 u51 u52 u53 u54 u55 u56 u57 u58 u59 u60 u61 u62 u63 u64 u65 u66 u67 u68 u69 u70 u71 u72 u73 u74 u75 u76 u77 u78 u79 u80 u81 u82 u83 u84 u85 u86 u87 u88 u89 u90 u91 u92 u93 u94 u95 u96 u97 u98 u99 u100 u101 u102 u103 u104 u105 u106 u107 u108 u109 u110 u111 u112 u113 u114 u115 u116 u117 u118 u119 u120 u121 u122 u123 u124 u125 u126 u127 u128 u129 u130 u131 u132 u133 u134 u135 u136 u137 u138 u139 u140 u141 u142 u143 u144 u145 u146 u147 u148 u149 u150 u151 u152 u153 u154 u155 u156 u157 u158 u159 u160 u161 u162 u163 u164 u165 u166 u167 u168 u169 u170 u171 u172 u173 u174 u175 u176 u177 u178 u179 u180 u181 u182 u183 u184 u185 u186 u187 u188 u189 u190 u191 u192 u193 u194 u195 u196 u197 u198 u199 u200 u201 u202 u203 u204 u205 u206 u207 u208 u209 u210 u211 u212 u213 u214 u215 u216 u217 u218 u219 u220 u221 u222 u223 u224 u225 u226 u227 u228 u229 u230 u231 u232 u233 u234 u235 u236 u237 u238 u239 u240 u241 u242 u243 u244 u245 u246 u247 u248 u249 u250 u251 u252 u253 u254 u255 u256 u257 u258 u259 u260 u261 u262 u263 u264 u265 u266 u267 u268 u269 u270 u271 u272 u273 u274 u275 u276 u277 u278 u279 u280 u281 u282 u283 u284 u285 u286 u287 u288 u289 u290 u291 u292 u293 u294 u295 u296 u297 u298 u299 u300 u301 u302 u303 u304 u305 u306 u307 u308 u309 u310 u311 u312 u313 u314 u315 u316 u317 u318 u319 u320 u321 u322 u323 u324 u325 u326 u327 : Value) (ko no lo ao ko2 no2 : Option Addr) (n kco nn nco lco an aco kco2 nco2 t : Nat) (most : Int) (prune : Bool) (key : ByteArray) (limit : Int) (Ks : Nat → ByteArray) (Ns Ls : Nat → Int) (f : Nat → Sta) (nw : Sta) (w w4 w6 : World) (K : Act → World → Prop)
    (hn : n ≤ 65536) (hnn : nn ≤ 131072) (han : an ≤ 65536) (hnk : Hid (nn = n * an)) (h1m : 1 ≤ most) (htk : t ≤ key.size) (hks : key.size ≤ 1048576) (htl : ∀ i, i < n → t ≤ (Ks i).size) (hsz : ∀ i, i < n → (Ks i).size ≤ 1048576)
    (HF : Hid (sx an Ks Ns Ls = f)) (HNW : Hid (nw.key = key ∧ nw.lim = limit ∧ nw.need.length = an))
    (HM : Hid (w6.ownsRow 0 9 1 (.slice ko2 n kco2) n (keysV (fstS f n)) ∧ w6.ownsRow 0 3 1 (.slice no2 nn nco2) nn (needV (fstS f n)) ∧ (∀ b, (Value.slice ko2 n kco2).ownBlock = some b → w4.heap.size ≤ b) ∧ (∀ b, (Value.slice no2 nn nco2).ownBlock = some b → w4.heap.size ≤ b)))
    (hs46 : w4.heap.size ≤ w6.heap.size) (hs04 : Hid (w.heap.size ≤ w4.heap.size)) (hb06 : Below w.heap.size w w6)
    (hK6 : In w4.heap.size w6 ko n kco (fun i => .string (Ks i))) (hN6 : In w4.heap.size w6 no nn nco (fun i => .int .i64 (Ns i))) (hL6 : In w4.heap.size w6 lo n lco (fun i => .int .u64 (Ls i))) (hA6 : In w4.heap.size w6 ao an aco (fun i => .int .i64 (nw.at i)))
    (hcont : ∀ a w', Code.wp Try.prog ((Try.f8.body.bind (findTail 41)).getD .skip) (bodyPost Try.prog Try.f8 fun e w' => e = .returned (.bool true) ∧ Below w.heap.size w w') a w' → K a w') :
    Code.wp Try.prog ((Try.f8.body.bind (findReg 40)).getD .skip) (Exit.then K (bodyPost Try.prog Try.f8 fun e w' => e = .returned (.bool true) ∧ Below w.heap.size w w')) ⟨#[.slice ko n kco, .slice no nn nco, .slice lo n lco, .int .i64 most, .bool prune, .string key, .int .i64 (t : Nat), .slice ao an aco, .int .u64 limit, u9, u10, u11, u12, u13, u14, u15, u16, u17, u18, u19, u20, .int .i64 (n : Nat), .int .i64 (an : Nat), u23, .slice ko2 n kco2, .slice no2 nn nco2, u26, u27, u28, u29, u30, u31, u32, u33, u34, u35, u36, u37, u38, u39, u40, u41, u42, u43, u44, u45, u46, u47, u48, u49, u50, u51, u52, u53, u54, u55, u56, u57, u58, u59, u60, u61, u62, u63, u64, u65, u66, u67, u68, u69, u70, u71, u72, u73, u74, u75, u76, u77, u78, u79, u80, u81, u82, u83, u84, u85, u86, u87, u88, u89, u90, u91, u92, u93, u94, u95, u96, u97, u98, u99, u100, u101, u102, u103, u104, u105, u106, u107, u108, u109, u110, u111, u112, u113, u114, u115, u116, u117, u118, u119, u120, u121, u122, u123, u124, u125, u126, u127, u128, u129, u130, u131, u132, u133, u134, u135, u136, u137, u138, u139, u140, u141, u142, u143, u144, u145, u146, u147, u148, u149, u150, u151, u152, u153, u154, u155, u156, u157, u158, u159, u160, u161, u162, u163, u164, u165, u166, u167, u168, u169, u170, u171, u172, u173, u174, u175, u176, u177, u178, u179, u180, u181, u182, u183, u184, u185, u186, u187, u188, u189, u190, u191, u192, u193, u194, u195, u196, u197, u198, u199, u200, u201, u202, u203, u204, u205, u206, u207, u208, u209, u210, u211, u212, u213, u214, u215, u216, u217, u218, u219, u220, u221, u222, u223, u224, u225, u226, u227, u228, u229, u230, u231, u232, u233, u234, u235, u236, u237, u238, u239, u240, u241, u242, u243, u244, u245, u246, u247, u248, u249, u250, u251, u252, u253, u254, u255, u256, u257, u258, u259, u260, u261, u262, u263, u264, u265, u266, u267, u268, u269, u270, u271, u272, u273, u274, u275, u276, u277, u278, u279, u280, u281, u282, u283, u284, u285, u286, u287, u288, u289, u290, u291, u292, u293, u294, u295, u296, u297, u298, u299, u300, u301, u302, u303, u304, u305, u306, u307, u308, u309, u310, u311, u312, u313, u314, u315, u316, u317, u318, u319, u320, u321, u322, u323, u324, u325, u326, u327], []⟩ w6 := by
  conv => arg 2; whnf
  conv at hcont => enter [a, w', 1, 2]; whnf
  have hmk0 := make_cap22 n (by omega)
  have own0 : (w6.alloc (.cells (madeCells #[.int .i64 0] n) 3)).ownsRow w6.heap.size 3 1 (.slice (some ⟨w6.heap.size, 0, none⟩) 0 n) 0 [] := World.ownsRow_made _ _ _ (Nat.le_refl _) (by unfold maxLen; omega) (by simp [madeCells])
  have HO : Hid ((w6.alloc (.cells (madeCells #[.int .i64 0] n) 3)).ownsRow w6.heap.size 3 1 (.slice (some ⟨w6.heap.size, 0, none⟩) 0 n) 0 []) := own0
  clear own0
  go_wp2
  clear hmk0
  obtain ⟨i0, hi0, hz0, hz1, hz2⟩ := info_parts info3
  go_loopw [26, 27, 28] (fun kp cst i wr => ∃ (j : Nat) (kA : Option Addr) (kC : Nat), j ≤ n ∧ i = .int .i64 j ∧ cst = .int .i64 (costS prune t an nw (fstS f j)) ∧ kp = .slice kA (kpt prune t an nw f j).length kC ∧
      wr.ownsRow w6.heap.size 3 1 (.slice kA (kpt prune t an nw f j).length kC) (kpt prune t an nw f j).length ((kpt prune t an nw f j).map (fun x => Value.int .i64 (x : Nat))) ∧ Below w6.heap.size w6 wr) (fun _ _ i _ => n - (intOf i).toNat)
  case atStart => exact ⟨0, _, _, Nat.zero_le _, rfl, by rw [show fstS f 0 = [] from rfl]; rfl, by rw [show kpt prune t an nw f 0 = [] from rfl]; rfl, by rw [show kpt prune t an nw f 0 = [] from rfl]; exact HO.out, (Below.refl _ _).alloc (Nat.le_refl _) _⟩
  case round =>
    obtain ⟨j, kA, kC, hj, rfl, rfl, rfl, hown, hbr⟩ := hrel
    by_cases hlt : j < n
    · have hcl := kpt_len prune t an nw f j
      have hks := kpt_succ prune t an nw f j
      have hcs := cost_succ prune t an nw f j
      have hcb := costS_bound prune t an nw (fstS f j)
      rw [len_fst] at hcb
      have hmu : (j : Int) * (2 + t + an) ≤ 65536 * (2 + t + an) := Int.mul_le_mul_of_nonneg_right (by omega) (by omega)
      have hCb : costS prune t an nw (fstS f j) ≤ 73015033856 := by omega
      have hC0 := hcb.1
      clear hmu hcb
      obtain ⟨L, hL⟩ : ∃ L, kpt prune t an nw f j = L := ⟨_, rfl⟩
      rw [hL] at hown hcl hks ⊢
      clear hL
      obtain ⟨C, hC⟩ : ∃ C, costS prune t an nw (fstS f j) = C := ⟨_, rfl⟩
      rw [hC] at hcs hCb hC0 ⊢
      clear hC
      obtain ⟨c, hc⟩ : ∃ c, L.length = c := ⟨_, rfl⟩
      rw [hc] at hown hcl ⊢
      have HCL : Hid (L.length = c) := hc
      clear hc
      cases prune with
      | false =>
        have HKS : Hid (kpt false t an nw f (j + 1) = if false && cov t an nw (f j) then L else L ++ [j]) := hks
        have HCS : Hid (costS false t an nw (fstS f (j + 1)) = C + if false then cos t an nw (f j) else 0) := hcs
        have hown1 := hown
        have hbr1 := hbr
        clear hks hcs
        go_wp2_with (at_builtin; refine wpList_append_lies _ rfl _ _ 22 rfl w6.heap.size 3 i0 (.int .i64 0) 1 8 Try.underlying22 hi0 hz0 hz1 hz2 rfl (by decide) _ c (L.map (fun x => Value.int .i64 (x : Nat))) rfl (World.ownsRow.alloc hown1 _) ⟨wr.heap.size, 0, none⟩ 1 1 [.int .i64 (j : Nat)] rfl rfl ?n1 ?n2 (by omega) ?n3 ?n4 ?n5 (wr.heap.size + 1) (by simp) ?_)
        case n1 => exact World.news_of_block (heap_alloc_new _ _)
        case n2 => intro u hu; simp at hu; subst hu; rfl
        case n3 => unfold maxLen; omega
        case n4 => omega
        case n5 => simp; exact Nat.le_trans hbr.size (Nat.le_succ _)
        intro g cap2 w2 hown2 hgrow2 hat2 hlt2
        have hbn : Below w6.heap.size w6 w2 := below_grown (hbr1.alloc hbr.size _) hgrow2 (fun b e => (hown1.lt b e).1) (by simp; exact Nat.le_trans hbr.size (Nat.le_succ _))
        have hl2 : (L ++ [j]).length = c + 1 := by rw [List.length_append, HCL.out]; rfl
        have hm2 : (L ++ [j]).map (fun x => Value.int .i64 (x : Nat)) = L.map (fun x => Value.int .i64 (x : Nat)) ++ [.int .i64 (j : Nat)] := by simp
        have HW : Hid (w2.ownsRow w6.heap.size 3 1 (.slice (some ⟨g, 0, none⟩) (L ++ [j]).length cap2) (L ++ [j]).length ((L ++ [j]).map (fun x => Value.int .i64 (x : Nat)))) := by rw [hl2, hm2]; exact hown2
        have HL2 : Hid ((L ++ [j]).length = c + 1) := hl2
        clear hown2 hgrow2 hat2 hl2 hm2
        go_wp2
        go_roundw
        case rel => exact ⟨j + 1, some ⟨g, 0, none⟩, cap2, by omega, by go_num, by rw [HCS.out]; simp, by rw [HKS.out, if_neg (by simp)]; rw [HL2.out], by rw [HKS.out, if_neg (by simp)]; exact HW.out, hbn⟩
        case measure => simp [intOf]; omega
      | true =>
        have HKS : Hid (kpt true t an nw f (j + 1) = if cov t an nw (f j) then L else L ++ [j]) := by show kpt true t an nw f (j + 1) = _; rw [hks]; rfl
        have HCS : Hid (costS true t an nw (fstS f (j + 1)) = C + cos t an nw (f j)) := by show costS true t an nw (fstS f (j + 1)) = _; rw [hcs]; rfl
        clear hks hcs
        have hcc := cvC_bound nw.key nw.at nw.lim (f j).key t (f j).at (f j).lim an
        obtain ⟨rb, hrb⟩ : ∃ rb, cov t an nw (f j) = rb := ⟨_, rfl⟩
        obtain ⟨rc, hrc⟩ : ∃ rc, cos t an nw (f j) = rc := ⟨_, rfl⟩
        have hcc2 : 0 ≤ rc ∧ rc ≤ 2 + t + an := by rw [← hrc]; exact hcc
        obtain ⟨hrc0, hrc1⟩ := hcc2
        have hB6 : Below w4.heap.size w6 wr := hbr.mono hs46
        obtain ⟨jk, hjk⟩ : ∃ jk, j * an = jk := ⟨_, rfl⟩
        obtain ⟨jk1, hjk1⟩ : ∃ jk1, (j + 1) * an = jk1 := ⟨_, rfl⟩
        have hjs : jk1 = jk + an := by rw [← hjk1, ← hjk, Nat.add_mul, Nat.one_mul]
        have hjn : jk1 ≤ nn := by rw [← hjk1, hnk.out]; exact Nat.mul_le_mul_right an hlt
        have hnd : In w4.heap.size wr (if nco = jk then no else Option.map (fun x => x.add jk) no) an (nco - jk) (fun i => .int .i64 ((f j).at i)) :=
          ((hN6.later hB6).cut jk an (by omega)).congr (fun i hi => by rw [← HF.out, sx_at _ _ _ _ _ _ hi, hjk])
        have hAr := hA6.later hB6
        have hcall : ∀ d, Calls Try.prog 30 #[.string key, .slice ao an aco, .int .u64 limit, .string (Ks j), .int .i64 (t : Nat), .slice (if nco = jk then no else Option.map (fun x => x.add jk) no) an (nco - jk), .int .u64 (Ls j)] (wr.drewN d) fun e w' => e = .returned (.tuple #[.bool rb, .int .i64 rc]) ∧ ∃ n, w' = (wr.drewN d).drewN n := by
          intro d
          have h := zzcovers_any key ao an aco nw.at limit (Ks j) t _ an (nco - jk) (f j).at (Ls j) w4.heap.size w4.heap.size (wr.drewN d) (by omega) (Nat.le_refl _) (by omega) (by omega) (htl j hlt) (by omega) (hsz j hlt) ⟨hAr.le, hAr.nil, hAr.cell⟩ ⟨hnd.le, hnd.nil, hnd.cell⟩
          have e1 : cvB key nw.at limit (Ks j) t (f j).at (Ls j) an = rb := by rw [← hrb, ← HF.out, ← HNW.out.1, ← HNW.out.2.1]; rfl
          have e2 : cvC key nw.at limit (Ks j) t (f j).at (Ls j) an = rc := by rw [← hrc, ← HF.out, ← HNW.out.1, ← HNW.out.2.1]; rfl
          rw [e1, e2] at h
          exact h
        obtain ⟨gK, oK, rfl, _, cellk⟩ := (hK6.later hB6).cell j hlt
        obtain ⟨gL, oL, rfl, _, celll⟩ := (hL6.later hB6).cell j hlt
        have hcn := hN6.le
        have wr1 := wrap_mul hjk (by omega)
        have wr2 : IntKind.i64.wrap (((j : Int) + 1) * (an : Int)) = (jk1 : Int) := wrap_mul hjk1 (by omega)
        have wr3 : IntKind.i64.wrap ((j : Int) + 1) = (j : Int) + 1 := by rw [IntKind.wrap_i64]; omega
        have nK := hN6.nil
        have HRB : Hid (cov t an nw (f j) = rb) := hrb
        have HRC : Hid (cos t an nw (f j) = rc) := hrc
        have HOW : Hid _ := hown
        have HBR : Hid _ := hbr
        clear hrb hrc hcc hnd hAr hjk hjk1 hown hbr hB6
        go_upto_region 46 with fail
        refine reg46 _ _ _ _ _ _ _ _ _ _ _ _ _ _ _ _ _ _ _ _ _ _ _ _ _ _ _ _ _ _ _ _ _ _ _ _ _ _ _ _ _ _ _ _ _ _ _ _ _ _ _ _ _ _ _ _ _ _ _ _ _ _ _ _ _ _ _ _ _ _ _ _ _ _ _ _ _ _ _ _ _ _ _ _ _ _ _ _ _ _ _ _ _ _ _ _ _ _ _ _ _ _ _ _ _ _ _ _ _ _ _ _ _ _ _ _ _ _ _ _ _ _ _ _ _ _ _ _ _ _ _ _ _ _ _ _ _ _ _ _ _ _ _ _ _ _ _ _ _ _ _ _ _ _ _ _ _ _ _ _ _ _ _ _ _ _ _ _ _ _ _ _ _ _ _ _ _ _ _ _ _ _ _ _ _ _ _ _ _ _ _ _ _ _ _ _ _ _ _ _ _ _ _ _ _ _ _ _ _ _ _ _ _ _ _ _ _ _ _ _ _ _ _ _ _ _ _ _ _ _ _ _ _ _ _ _ _ _ _ _ _ _ _ _ _ _ _ _ _ _ _ _ _ _ _ _ _ _ _ _ _ _ _ _ _ _ _ _ _ _ _ _ _ _ _ _ _ _ _ _ _ _ _ _ _ _ _ _ _ _ _ _ _ _ _ _ _ _ _ _ _ _ _ _ _ _ _ _ _ _ _ _ _ _ _ _ _ _ _ gK oK gL oL j t an jk jk1 n nn _ nco _ aco no ao key (Ks j) limit (Ls j) rb rc wr _ _ cellk celll nK hcall hlt (by omega) (by omega) (by omega) (by omega) wr1 wr2 wr3 ?_
        intro v0 v1 v2 v3 v4 v5 v6 v7 v8 v9 v10 v11 v12 v13 v14 v15 v16 v17 v18 v19 v20 v21 v22 v23 v24 nq
        have hown1 : (wr.drewN nq).ownsRow w6.heap.size 3 1 (.slice kA c kC) c (L.map (fun x => Value.int .i64 (x : Nat))) := HOW.out
        have hbr1 : Below w6.heap.size w6 (wr.drewN nq) := below_drewN HBR.out _
        clear HOW HBR hcall cellk celll wr1 wr2 wr3 nK hjs hcn hjn
        generalize wr.drewN nq = wd at hown1 hbr1 ⊢
        have hbs := hbr1.size
        cases rb with
        | true =>
          have HW : Hid _ := hown1
          clear hown1
          go_wp2
          go_roundw
          case rel => exact ⟨j + 1, kA, kC, by omega, by go_num, by rw [HCS.out, HRC.out], by rw [HKS.out, if_pos HRB.out, HCL.out], by rw [HKS.out, if_pos HRB.out, HCL.out]; exact HW.out, hbr1⟩
          case measure => simp [intOf]; omega
        | false =>
          go_wp2_with (at_builtin; refine wpList_append_lies _ rfl _ _ 22 rfl w6.heap.size 3 i0 (.int .i64 0) 1 8 Try.underlying22 hi0 hz0 hz1 hz2 rfl (by decide) _ c (L.map (fun x => Value.int .i64 (x : Nat))) rfl (World.ownsRow.alloc hown1 _) ⟨wd.heap.size, 0, none⟩ 1 1 [.int .i64 (j : Nat)] rfl rfl ?n1 ?n2 (by omega) ?n3 ?n4 ?n5 (wd.heap.size + 1) (by simp) ?_)
          case n1 => exact World.news_of_block (heap_alloc_new _ _)
          case n2 => intro u hu; simp at hu; subst hu; rfl
          case n3 => unfold maxLen; omega
          case n4 => omega
          case n5 => simp; exact Nat.le_trans hbs (Nat.le_succ _)
          intro g cap2 w2 hown2 hgrow2 hat2 hlt2
          have hbn : Below w6.heap.size w6 w2 := below_grown (hbr1.alloc hbs _) hgrow2 (fun b e => (hown1.lt b e).1) (by simp; exact Nat.le_trans hbs (Nat.le_succ _))
          have hl2 : (L ++ [j]).length = c + 1 := by rw [List.length_append, HCL.out]; rfl
          have hm2 : (L ++ [j]).map (fun x => Value.int .i64 (x : Nat)) = L.map (fun x => Value.int .i64 (x : Nat)) ++ [.int .i64 (j : Nat)] := by simp
          have HW : Hid (w2.ownsRow w6.heap.size 3 1 (.slice (some ⟨g, 0, none⟩) (L ++ [j]).length cap2) (L ++ [j]).length ((L ++ [j]).map (fun x => Value.int .i64 (x : Nat)))) := by rw [hl2, hm2]; exact hown2
          have HL2 : Hid ((L ++ [j]).length = c + 1) := hl2
          have hne : ¬ (cov t an nw (f j) = true) := by rw [HRB.out]; decide
          have HNE : Hid _ := hne
          clear hown2 hgrow2 hat2 hl2 hm2 hne
          go_wp2
          go_roundw
          case rel => exact ⟨j + 1, some ⟨g, 0, none⟩, cap2, by omega, by go_num, by rw [HCS.out, HRC.out], by rw [HKS.out, if_neg HNE.out]; rw [HL2.out], by rw [HKS.out, if_neg HNE.out]; exact HW.out, hbn⟩
          case measure => simp [intOf]; omega
    · obtain rfl : j = n := by omega
      obtain ⟨n, rfl⟩ : ∃ n : Nat, n = j := ⟨_, rfl⟩
      have hcl := kpt_len prune t an nw f n
      have hkm := kept_map prune t an nw f n
      obtain ⟨L, hL⟩ : ∃ L, kpt prune t an nw f n = L := ⟨_, rfl⟩
      rw [hL] at hown hcl hkm ⊢
      have HL : Hid (kpt prune t an nw f n = L) := hL
      clear hL
      obtain ⟨c, hc⟩ : ∃ c, L.length = c := ⟨_, rfl⟩
      rw [hc] at hown hcl ⊢
      obtain ⟨q, hqd⟩ : ∃ q, fromS most (keptS prune t an nw (fstS f n)) = q := ⟨_, rfl⟩
      have hq0 : q = if (c : Int) = most then 1 else 0 := by rw [← hqd, hkm]; simp only [fromS, List.length_map, hc]
      have hqc : q ≤ c ∧ q ≤ 1 := by rw [hq0]; split <;> omega
      obtain ⟨hqc, hq1⟩ := hqc
      have HQ : Hid (q = if (c : Int) = most then 1 else 0) := hq0
      have HQD : Hid (fromS most (keptS prune t an nw (fstS f n)) = q) := hqd
      have HC : Hid (L.length = c) := hc
      obtain ⟨C, hC⟩ : ∃ C, costS prune t an nw (fstS f n) = C := ⟨_, rfl⟩
      rw [hC]
      have HCC : Hid (costS prune t an nw (fstS f n) = C) := hC
      clear hC hc hqd hq0 hkm
      have HOW : Hid _ := hown
      clear hown
      go_upto_if 224 with fail
      go_cut [31] from 40 (fun fr w2 => fr = .int .i64 (q : Nat) ∧ w2 = wr)
      case first =>
        by_cases hd : ((c : Int) = most)
        · have hb : ((c : Int) == most) = true := by simpa using hd
          have HE : Hid (q = 1) := by show q = 1; rw [HQ.out, if_pos hd]
          clear hd
          go_wp2
          go_meet
          case rel => exact ⟨by rw [HE.out]; rfl, rfl⟩
        · have hb : ((c : Int) == most) = false := by simpa using hd
          have HE : Hid (q = 0) := by show q = 0; rw [HQ.out, if_neg hd]
          clear hd
          go_wp2
          go_meet
          case rel => exact ⟨by rw [HE.out]; rfl, rfl⟩
      case rest =>
        obtain ⟨rfl, rfl⟩ := hcut
        apply_assumption
        refine tail8 _ _ _ _ _ _ _ _ _ _ _ _ _ _ _ _ _ _ _ _ _ _ _ _ _ _ _ _ _ _ _ _ _ _ _ _ _ _ _ _ _ _ _ _ _ _ _ _ _ _ _ _ _ _ _ _ _ _ _ _ _ _ _ _ _ _ _ _ _ _ _ _ _ _ _ _ _ _ _ _ _ _ _ _ _ _ _ _ _ _ _ _ _ _ _ _ _ _ _ _ _ _ _ _ _ _ _ _ _ _ _ _ _ _ _ _ _ _ _ _ _ _ _ _ _ _ _ _ _ _ _ _ _ _ _ _ _ _ _ _ _ _ _ _ _ _ _ _ _ _ _ _ _ _ _ _ _ _ _ _ _ _ _ _ _ _ _ _ _ _ _ _ _ _ _ _ _ _ _ _ _ _ _ _ _ _ _ _ _ _ _ _ _ _ _ _ _ _ _ _ _ _ _ _ _ _ _ _ _ _ _ _ _ _ _ _ _ _ _ _ _ _ _ _ _ _ _ _ _ _ _ _ _ _ _ _ _ _ _ _ _ _ _ _ _ _ _ _ _ _ _ _ _ _ _ _ _ _ _ _ _ _ _ _ _ _ _ _ _ _ _ _ _ _ _ _ _ _ _ _ _ _ _ _ _ _ _ _ _ _ _ _ _ _ _ _ _ _ _ _ _ _ _ _ _ _ _ _ _ _ _ _ _ ko no lo ao ko2 no2 kA n _ nn _ _ an _ _ _ c _ q t most prune key limit C Ks Ns Ls f nw L w w4 w6 _ (by omega) (by omega) (by omega) hnk (by omega) (by omega) (by omega) htl hsz HL HC hqc hq1 hcl HQD HCC HF HNW HM HOW hs46 hbr hs04 hb06 hK6 hN6 hL6 hA6
        end Go.Proofs.Qxb6600123a
