/-
  Seat b6600123a: FnFailuresAddKeepsUncoveredAndNew: the walk from the making of the store on.
-/
import Derived.Test.Qxb6600123aAdd8
import Derived.Deep.QuietTactic
import Derived.BigQuiet
namespace Go.Proofs.Qxb6600123a
open Go.RowKit Go.Deep
set_option linter.unusedVariables false
set_option linter.unusedSimpArgs false
attribute [local go_sem ↓] Go.wp_at_zero Go.wp_at_succ

set_option maxRecDepth 1000000 in
set_option maxHeartbeats 4000000 in
theorem tail8 (u9 u10 u11 u12 u13 u14 u15 u16 u17 u18 u19 u20 u21 u23 u28 u29 u30 u32 u33 u34 u35 u36 u37 u38 u39 u40 u41 u42 u43 u44 u45 u46 u47 u48 u49 u50 u51 u52 u53 u54 u55 u56 u57 u58 u59 u60 u61 u62 u63 u64 u65 u66 u67 u68 u69 u70 u71 u72 u73 u74 u75 u76 u77 u78 u79 u80 u81 u82 u83 u84 u85 u86 u87 u88 u89 u90 u91 u92 u93 u94 u95 u96 u97 u98 u99 u100 u101 u102 u103 u104 u105 u106 u107 u108 u109 u110 u111 u112 u113 u114 u115 u116 u117 u118 u119 u120 u121 u122 u123 u124 u125 u126 u127 u128 u129 u130 u131 u132 u133 u134 u135 u136 u137 u138 u139 u140 u141 u142 u143 u144 u145 u146 u147 u148 u149 u150 u151 u152 u153 u154 u155 u156 u157 u158 u159 u160 u161 u162 u163 u164 u165 u166 u167 u168 u169 u170 u171 u172 u173 u174 u175 u176 u177 u178 u179 u180 u181 u182 u183 u184 u185 u186 u187 u188 u189 u190 u191 u192 u193 u194 u195 u196 u197 u198 u199 u200 u201 u202 u203 u204 u205 u206 u207 u208 u209 u210 u211 u212 u213 u214 u215 u216 u217 u218 u219 u220 u221 u222 u223 u224 u225 u226 u227 u228 u229 u230 u231 u232 u233 u234 u235 u236 u237 u238 u239 u240 u241 u242 u243 u244 u245 u246 u247 u248 u249 u250 u251 u252 u253 u254 u255 u256 u257 u258 u259 u260 u261 u262 u263 u264 u265 u266 u267 u268 u269 u270 u271 u272 u273 u274 u275 u276 u277 u278 u279 u280 u281 u282 u283 u284 u285 u286 u287 u288 u289 u290 u291 u292 u293 u294 u295 u296 u297 u298 u299 u300 u301 u302 u303 u304 u305 u306 u307 u308 u309 u310 u311 u312 u313 u314 u315 u316 u317 u318 u319 u320 u321 u322 u323 u324 u325 u326 u327 : Value) (ko no lo ao ko2 no2 kA : Option Addr) (n kco nn nco lco an aco kco2 nco2 c kC q t : Nat) (most : Int) (prune : Bool) (key : ByteArray) (limit C : Int) (Ks : Nat → ByteArray) (Ns Ls : Nat → Int) (f : Nat → Sta) (nw : Sta) (L : List Nat) (w w4 w6 wr : World)
    (hn : n ≤ 65536) (hnn : nn ≤ 131072) (han : an ≤ 65536) (hnk : Hid (nn = n * an)) (h1m : 1 ≤ most) (htk : t ≤ key.size) (hks : key.size ≤ 1048576) (htl : ∀ i, i < n → t ≤ (Ks i).size) (hsz : ∀ i, i < n → (Ks i).size ≤ 1048576)
    (hL : Hid (kpt prune t an nw f n = L)) (hC : Hid (L.length = c)) (hqc : q ≤ c) (hq1 : q ≤ 1) (hcn : c ≤ n) (hqd : Hid (fromS most (keptS prune t an nw (fstS f n)) = q)) (hcc : Hid (costS prune t an nw (fstS f n) = C))
    (hf : Hid (sx an Ks Ns Ls = f)) (en : Hid (nw.key = key ∧ nw.lim = limit ∧ nw.need.length = an))
    (hM : Hid (w6.ownsRow 0 9 1 (.slice ko2 n kco2) n (keysV (fstS f n)) ∧ w6.ownsRow 0 3 1 (.slice no2 nn nco2) nn (needV (fstS f n)) ∧ (∀ b, (Value.slice ko2 n kco2).ownBlock = some b → w4.heap.size ≤ b) ∧ (∀ b, (Value.slice no2 nn nco2).ownBlock = some b → w4.heap.size ≤ b)))
    (how : Hid (wr.ownsRow w6.heap.size 3 1 (.slice kA c kC) c (L.map (fun x => Value.int .i64 (x : Nat))))) (hs46 : w4.heap.size ≤ w6.heap.size) (hbr : Below w6.heap.size w6 wr) (hs04 : Hid (w.heap.size ≤ w4.heap.size)) (hb06 : Below w.heap.size w w6)
    (hK6 : In w4.heap.size w6 ko n kco (fun i => .string (Ks i))) (hN6 : In w4.heap.size w6 no nn nco (fun i => .int .i64 (Ns i))) (hL6 : In w4.heap.size w6 lo n lco (fun i => .int .u64 (Ls i))) (hA6 : In w4.heap.size w6 ao an aco (fun i => .int .i64 (nw.at i))) :
    Code.wp Try.prog ((Try.f8.body.bind (findTail 53)).getD .skip) (bodyPost Try.prog Try.f8 fun e w' => e = .returned (.bool true) ∧ Below w.heap.size w w') ⟨#[.slice ko n kco, .slice no nn nco, .slice lo n lco, .int .i64 most, .bool prune, .string key, .int .i64 (t : Nat), .slice ao an aco, .int .u64 limit, u9, u10, u11, u12, u13, u14, u15, u16, u17, u18, u19, u20, u21, .int .i64 (an : Nat), u23, .slice ko2 n kco2, .slice no2 nn nco2, .slice kA c kC, .int .i64 C, u28, u29, u30, .int .i64 (q : Nat), u32, u33, u34, u35, u36, u37, u38, u39, u40, u41, u42, u43, u44, u45, u46, u47, u48, u49, u50, u51, u52, u53, u54, u55, u56, u57, u58, u59, u60, u61, u62, u63, u64, u65, u66, u67, u68, u69, u70, u71, u72, u73, u74, u75, u76, u77, u78, u79, u80, u81, u82, u83, u84, u85, u86, u87, u88, u89, u90, u91, u92, u93, u94, u95, u96, u97, u98, u99, u100, u101, u102, u103, u104, u105, u106, u107, u108, u109, u110, u111, u112, u113, u114, u115, u116, u117, u118, u119, u120, u121, u122, u123, u124, u125, u126, u127, u128, u129, u130, u131, u132, u133, u134, u135, u136, u137, u138, u139, u140, u141, u142, u143, u144, u145, u146, u147, u148, u149, u150, u151, u152, u153, u154, u155, u156, u157, u158, u159, u160, u161, u162, u163, u164, u165, u166, u167, u168, u169, u170, u171, u172, u173, u174, u175, u176, u177, u178, u179, u180, u181, u182, u183, u184, u185, u186, u187, u188, u189, u190, u191, u192, u193, u194, u195, u196, u197, u198, u199, u200, u201, u202, u203, u204, u205, u206, u207, u208, u209, u210, u211, u212, u213, u214, u215, u216, u217, u218, u219, u220, u221, u222, u223, u224, u225, u226, u227, u228, u229, u230, u231, u232, u233, u234, u235, u236, u237, u238, u239, u240, u241, u242, u243, u244, u245, u246, u247, u248, u249, u250, u251, u252, u253, u254, u255, u256, u257, u258, u259, u260, u261, u262, u263, u264, u265, u266, u267, u268, u269, u270, u271, u272, u273, u274, u275, u276, u277, u278, u279, u280, u281, u282, u283, u284, u285, u286, u287, u288, u289, u290, u291, u292, u293, u294, u295, u296, u297, u298, u299, u300, u301, u302, u303, u304, u305, u306, u307, u308, u309, u310, u311, u312, u313, u314, u315, u316, u317, u318, u319, u320, u321, u322, u323, u324, u325, u326, u327], []⟩ wr := by
  conv => arg 2; whnf
  have hsr : w6.heap.size ≤ wr.heap.size := hbr.size
  have h4r : w4.heap.size ≤ wr.heap.size := Nat.le_trans hs46 hsr
  have hB6 : Below w4.heap.size w6 wr := hbr.mono hs46
  have hKr := hK6.later hB6
  have hNr := hN6.later hB6
  have hLr := hL6.later hB6
  have hAr := hA6.later hB6
  have HB0 : Hid (Below w.heap.size w wr) := hb06.trans (hbr.mono (Nat.le_trans hs04.out hs46))
  obtain ⟨m, hm⟩ : ∃ m, c - q = m := ⟨_, rfl⟩
  have HADD : Hid _ := fun (P : Nat) (w7 : World) => add8 ko no lo ao ko2 no2 kA n kco nn nco lco an aco kco2 nco2 c kC q t m P most prune key limit C Ks Ns Ls f nw L w4 w6 wr w7 hn (by omega) han hnk.out h1m htk hks htl hsz hL.out hC.out hqc hqd.out hcc.out hm hf.out en.out.1 en.out.2.1 en.out.2.2 hM.out.1 hM.out.2.1 hM.out.2.2.1 hM.out.2.2.2 how.out hs46 hbr hKr hNr hLr hAr
  have hLi := hLr.lift h4r
  have em : (c : Int) - (q : Int) = (m : Int) := by omega
  have hmc : q + m ≤ c := by omega
  have hmc2 : c ≤ q + m := by omega
  clear hKr hNr hLr hAr hK6 hN6 hL6 hA6 hb06 hbr hB6 htl hsz hm how hM hL hqd hcc hs46 hsr
  have hs0r : Hid (w.heap.size ≤ wr.heap.size) := HB0.out.size
  go_wp2_with fail
  refine (zznew_any ko2 no2 lo n kco2 nn nco2 n lco Ls most prune _ (by omega) hLi).mono ?_
  rintro e w7 ⟨P, rfl, hP, hb7, hrow, hlim⟩
  have HA2 : Hid _ := HADD.out P w7 hP hb7 hrow hlim
  have HB7 : Hid (Below w.heap.size w w7) := HB0.out.trans (hb7.mono hs0r.out)
  have hs7 := hb7.size
  clear HADD hLi hrow hlim hb7 HB0
  go_wp2_with fail
  refine Calls.mono HA2.out ?_
  rintro e w8 ⟨rfl, aK, aN, aM, cK, cN, cM, G, V, c0, c1, c2, hPl, iK, iN, iM, hV, hG, hGm, jK, jN, jL, jA, jP, hb8⟩
  have HB8 : Hid (Below w.heap.size w w8) := HB7.out.trans (hb8.mono hs04.out)
  have hs8 : w4.heap.size ≤ w8.heap.size := by have := hb8.size; omega
  clear hb8 HA2 HB7
  have HV : Hid _ := hV
  have HG : Hid _ := hG
  have HGM : Hid (G m = nw) := hGm
  clear hV hG hGm
  obtain ⟨m1, hm1⟩ : ∃ m1, m + 1 = m1 := ⟨_, rfl⟩
  rw [hm1] at c0 c1 c2 iK iN iM
  obtain ⟨mk1, hmk1⟩ : ∃ mk1, m1 * an = mk1 := ⟨_, rfl⟩
  rw [hmk1] at c1 iN
  have hmb : mk1 ≤ 196608 := by
    have h1 : mk1 = m * an + an := by rw [← hmk1, ← hm1, Nat.add_mul, Nat.one_mul]
    have h2 : m * an ≤ n * an := Nat.mul_le_mul_right an (by omega)
    rw [← hnk.out] at h2
    omega
  have hm1b : m1 ≤ 65537 := by omega
  have wm : IntKind.i64.wrap (((m : Int) + 1) * (an : Int)) = (mk1 : Int) := by
    have := wrap_mul hmk1 (by omega)
    rw [← hm1] at this
    exact_mod_cast this
  have d1 : ((m1 : Int) != (m : Int) + 1) = false := by simp; omega
  have d2 : ((mk1 : Int) != (mk1 : Int)) = false := by simp
  have dC : ((C : Int) != C) = false := by simp
  have HIK : Hid (∀ i, i < m1 → i * an + an ≤ mk1) := by
    intro i hi
    have := Nat.mul_le_mul_right an (show i + 1 ≤ m1 from hi)
    rw [hmk1, Nat.add_mul, Nat.one_mul] at this
    exact this
  have HJK : Hid (∀ i, i < n → i * an + an ≤ nn) := by
    intro i hi
    have := Nat.mul_le_mul_right an (show i + 1 ≤ n from hi)
    rw [← hnk.out, Nat.add_mul, Nat.one_mul] at this
    exact this
  have hm1a : m < m1 := by omega
  have HM1 : Hid (m + 1 = m1) := hm1
  clear hm1 hmk1
  have hm1' : (m1 : Int) ≤ (m : Int) + 1 := by have := HM1.out; omega
  go_wp2_with fail
  refine (zzkeys_any P _ _ aK m1 cK rfl c0).mono ?_
  rintro e w' ⟨rfl, hw'⟩
  subst w'
  go_wp2_with fail
  refine (zzneed_any P _ _ aN mk1 cN rfl c1).mono ?_
  rintro e w' ⟨rfl, hw'⟩
  subst w'
  go_wp2_with fail
  refine (zzlimits_any P aM m1 cM (fun i => (G i).lim) _ (by omega) hPl c2 iM).mono ?_
  rintro e w9 ⟨rfl, hb9, hrow9⟩
  have iK9 := iK.next hb9
  have iN9 := iN.next hb9
  have jK9 := jK.next hb9
  have jN9 := jN.next hb9
  have jL9 := jL.next hb9
  have jA9 := jA.next hb9
  have jP9 := jP.next hb9
  have HB9 : Hid (Below w.heap.size w w9) := HB8.out.trans (hb9.mono HB8.out.size)
  clear iK iN iM jK jN jL jA jP hb9 c0 c1 c2 hPl HB8
  go_wp2
  go_loopw [38] (fun i wx => ∃ x d : Nat, x ≤ m ∧ i = .int .i64 x ∧ wx = w9.drewN d) (fun i _ => m - (intOf i).toNat)
  case atStart => exact ⟨0, 0, Nat.zero_le _, rfl, rfl⟩
  case round =>
    obtain ⟨x, d, hx, rfl, rfl⟩ := hrel
    by_cases hxl : x < m
    · obtain ⟨y, hy, hLy, hGy⟩ := HG.out x hxl
      obtain ⟨g0, o0, rfl, _, cP⟩ := jP9.cell (q + x) (by omega)
      have cP2 : w9.cell? ⟨g0, o0 + (q + x), none⟩ = some (.int .i64 (y : Nat)) := by rw [cP]; simp [List.getD_eq_getElem?_getD, hLy]
      obtain ⟨g1, o1, rfl, _, cA⟩ := iK9.cell x (by omega)
      obtain ⟨g2, o2, rfl, _, cB⟩ := jK9.cell y hy
      obtain ⟨g3, o3, rfl, _, cC⟩ := jL9.cell y hy
      have cD : w9.cell? ⟨w8.heap.size, x, none⟩ = some (.int .u64 (G x).lim) := hrow9.cell (by omega)
      have hk : (G x).key = Ks y := by rw [hGy, ← hf.out]; rfl
      have hl : (G x).lim = Ls y := by rw [hGy, ← hf.out]; rfl
      rw [hk] at cA
      rw [hl] at cD
      have HS : Hid (sameB (fun r => V (x * an + r)) (fun r => Ns (y * an + r)) an = true) := by
        refine (sameB_iff _ _ _).2 (fun r hr => ?_)
        show V (x * an + r) = Ns (y * an + r)
        rw [HV.out x r hr, hGy, ← hf.out, sx_at _ _ _ _ _ _ hr]
      have hk2 := HIK.out x (by omega)
      have hk3 := HJK.out y hy
      have hi0 : (q : Int) + (x : Int) < (c : Int) := by omega
      have hi1 : (x : Int) < (m1 : Int) := by omega
      have hi2 : (y : Int) < (n : Int) := by omega
      have HCx : Hid _ := fun dd => same_any aN no mk1 cN nn nco x y an (x * an) (y * an) V Ns w9.heap.size w9.heap.size (w9.drewN dd) rfl rfl (by omega) (by omega) (by omega) (by omega) ⟨iN9.le, iN9.nil, iN9.cell⟩ ⟨jN9.le, jN9.nil, jN9.cell⟩
      clear hLy hGy cP hk hl hk2 hk3
      go_wp2_with fail
      go_quiet (fail)
      go_wp2_with fail
      refine Calls.mono (HCx.out _) ?_
      rintro e w' ⟨rfl, d2, rfl⟩
      have hs := HS.out
      rw [hs]
      clear hs
      go_wp2
      go_roundw
      case rel => exact ⟨x + 1, _, by omega, by go_num, rfl⟩
      case measure => simp [intOf]; omega
    · obtain rfl : x = m := by omega
      obtain ⟨g1, o1, rfl, _, cA⟩ := iK9.cell x (by omega)
      have cD : w9.cell? ⟨w8.heap.size, x, none⟩ = some (.int .u64 (G x).lim) := hrow9.cell (by omega)
      have hk : (G x).key = key := by rw [HGM.out]; exact en.out.1
      have hl : (G x).lim = limit := by rw [HGM.out]; exact en.out.2.1
      rw [hk] at cA
      rw [hl] at cD
      have HS : Hid (sameB (fun r => V (x * an + r)) (fun r => nw.at (0 + r)) an = true) := by
        refine (sameB_iff _ _ _).2 (fun r hr => ?_)
        show V (x * an + r) = nw.at (0 + r)
        rw [HV.out x r hr, HGM.out, Nat.zero_add]
      have hk2 := HIK.out x (by omega)
      have hi1 : (x : Int) < (m1 : Int) := by omega
      have HCx : Hid _ := fun dd => same_any aN ao mk1 cN an aco x 0 an (x * an) 0 V nw.at w9.heap.size w9.heap.size (w9.drewN dd) rfl (Nat.zero_mul _) (by omega) (by omega) (by omega) (by omega) ⟨iN9.le, iN9.nil, iN9.cell⟩ ⟨jA9.le, jA9.nil, jA9.cell⟩
      clear hk hl hk2
      go_wp2_with fail
      refine Calls.mono (HCx.out _) ?_
      rintro e w' ⟨rfl, d2, rfl⟩
      have hs := HS.out
      rw [hs]
      clear hs
      go_wp2
      go_ret
      exact ⟨rfl, below_drewN HB9.out _⟩
end Go.Proofs.Qxb6600123a
