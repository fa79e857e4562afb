/-
  Seat b6600123a: FnFailuresPrunedNoNewerCoversOlder: the walk from the making of the store on.
-/
import Derived.Test.Qxb6600123aTail10
import Derived.Test.Qxb6600123aReg10c
namespace Go.Proofs.Qxb6600123a
open Go.RowKit Go.Deep
set_option linter.unusedVariables false
set_option linter.unusedSimpArgs false
attribute [local go_sem ↓] Go.wp_at_zero Go.wp_at_succ

theorem Fr.of_below {S : Nat → Prop} {w w' : World} (h : Below w.heap.size w w') (hS : ∀ b, w.heap.size ≤ b → S b) : Fr S w w' :=
  ⟨h.os, h.tape, h.output, h.size, fun b hb => h.block b (by
    rcases Nat.lt_or_ge b w.heap.size with h1 | h1
    · exact h1
    · exact absurd (hS b h1) hb)⟩
theorem FA.later {S : Nat → Prop} {w w' : World} {P : Nat} {most : Int} {prune : Bool} {vK vN vM : Value} {xk xn xm : List Value} (h : FA S w P most prune vK vN vM xk xn xm) (hb : Below w.heap.size w w') : FA S w' P most prune vK vN vM xk xn xm :=
  ⟨row_later h.pool hb h.pool.lt, own_later h.keys hb, own_later h.need hb, own_later h.lims hb, h.sP, h.sK, h.sN, h.sM⟩

/-- What the store's three arrays read, when it holds st. -/
theorem store_reads {S : Nat → Prop} {w : World} {P : Nat} {most : Int} {prune : Bool} {aK aN aM : Option Addr} {cK cN cM k : Nat} {st : List Sta} (d : Sta) (l : Nat) (hl : st.length = l) (hw : Wid k st)
    (h : FA S w P most prune (.slice aK st.length cK) (.slice aN (st.length * k) cN) (.slice aM st.length cM) (keysV st) (needV st) (limsV st)) :
    ∃ V : Nat → Int, w.cell? ⟨P, 0, none⟩ = some (.slice aK l cK) ∧ w.cell? ⟨P, 1, none⟩ = some (.slice aN (l * k) cN) ∧ w.cell? ⟨P, 2, none⟩ = some (.slice aM l cM) ∧ P < w.heap.size ∧
      In w.heap.size w aK l cK (fun i => .string (st.getD i d).key) ∧ In w.heap.size w aN (l * k) cN (fun x => .int .i64 (V x)) ∧ In w.heap.size w aM l cM (fun i => .int .u64 (st.getD i d).lim) ∧
      (∀ i r, r < k → V (i * k + r) = (st.getD i d).at r) := by
  obtain ⟨V, hVk, hVl, hVn, hVa⟩ := out_cells hl hw d
  have o1 := h.keys
  have o2 := h.need
  have o3 := h.lims
  rw [len_keysV, hl] at o1
  rw [len_needV hw, hl] at o2
  rw [len_limsV, hl] at o3
  have c0 : w.cell? ⟨P, 0, none⟩ = some (.slice aK st.length cK) := h.pool.cell (by omega)
  have c1 : w.cell? ⟨P, 1, none⟩ = some (.slice aN (st.length * k) cN) := h.pool.cell (by omega)
  have c2 : w.cell? ⟨P, 2, none⟩ = some (.slice aM st.length cM) := h.pool.cell (by omega)
  rw [hl] at c0 c1 c2
  exact ⟨V, c0, c1, c2, h.pool.lt, In.own o1 hVk, In.own o2 hVn, In.own o3 hVl, hVa⟩

set_option maxRecDepth 1000000 in
set_option maxHeartbeats 4000000 in
theorem mid10 (u6 u7 u8 u9 u10 u11 u12 u13 u14 u16 u17 u18 u19 u20 u21 u22 u23 u24 u25 u26 u27 u28 u29 u30 u31 u32 u33 u34 u35 u36 u37 u38 u39 u40 u41 u42 u43 u44 u45 u46 u47 u48 u49 u50 u51 u52 u53 u54 u55 u56 u57 u58 u59 u60 u61 u62 u63 u64 u65 u66 u67 u68 u69 u70 u71 u72 u73 u74 u75 u76 u77 u78 u79 u80 u81 u82 u83 u84 u85 u86 u87 u88 u89 u90 u91 u92 u93 u94 u95 u96 u97 u98 u99 u100 u101 u102 u103 u104 u105 u106 u107 u108 u109 u110 u111 u112 u113 u114 u115 u116 u117 u118 u119 u120 u121 u122 u123 u124 u125 u126 u127 u128 u129 u130 u131 u132 u133 u134 u135 u136 u137 u138 u139 u140 u141 u142 u143 u144 u145 u146 u147 u148 u149 u150 u151 u152 u153 u154 u155 u156 u157 u158 u159 u160 u161 u162 u163 u164 u165 u166 u167 u168 u169 u170 u171 u172 u173 u174 u175 u176 u177 u178 u179 u180 u181 u182 u183 u184 u185 u186 u187 u188 u189 u190 u191 u192 u193 u194 u195 u196 u197 u198 u199 u200 u201 u202 u203 u204 u205 u206 u207 u208 u209 u210 u211 u212 u213 u214 u215 u216 u217 u218 u219 u220 u221 u222 u223 u224 u225 u226 u227 u228 u229 u230 u231 u232 u233 u234 u235 u236 u237 u238 u239 u240 u241 u242 u243 u244 u245 u246 u247 u248 u249 u250 u251 u252 u253 u254 u255 u256 u257 u258 u259 u260 u261 u262 u263 u264 u265 u266 u267 u268 u269 u270 u271 u272 u273 u274 u275 u276 u277 u278 u279 u280 u281 u282 u283 u284 u285 u286 u287 u288 u289 u290 u291 u292 u293 u294 u295 u296 u297 u298 u299 u300 u301 u302 u303 u304 u305 u306 u307 u308 u309 u310 u311 u312 u313 u314 u315 u316 u317 u318 u319 u320 u321 u322 u323 u324 u325 u326 u327 u328 u329 u330 u331 u332 u333 u334 u335 u336 u337 : Value) (ko no lo : Option Addr) (n kco nn nco lco k t : Nat) (most : Int) (Ks : Nat → ByteArray) (Ns Ls : Nat → Int) (w w3 : World) (wk wl : Nat) (K : Act → World → Prop)
    (hn : n ≤ 1024) (hnn : nn ≤ 131072) (hk : k ≤ 65536) (hnk : Hid (nn = n * k)) (h1m : 1 ≤ most) (htl : ∀ i, i < n → t ≤ (Ks i).size) (hsz : ∀ i, i < n → (Ks i).size ≤ 1048576)
    (HKO : Hid (0 < n → ko = some ⟨wk, 0, none⟩)) (HLO : Hid (0 < n → lo = some ⟨wl, 0, none⟩)) (hb03 : Below w.heap.size w w3)
    (hK3 : In w3.heap.size w3 ko n kco (fun i => .string (Ks i))) (hN3 : In w3.heap.size w3 no nn nco (fun i => .int .i64 (Ns i))) (hL3 : In w3.heap.size w3 lo n lco (fun i => .int .u64 (Ls i)))
    (hcont : ∀ a w', Code.wp Try.prog ((Try.f10.body.bind (findTail 34)).getD .skip) (bodyPost Try.prog Try.f10 fun e w' => e = .returned (.bool true) ∧ Below w.heap.size w w') a w' → K a w') :
    Code.wp Try.prog ((Try.f10.body.bind (findReg 33)).getD .skip) (Exit.then K (bodyPost Try.prog Try.f10 fun e w' => e = .returned (.bool true) ∧ Below w.heap.size w w')) ⟨#[.slice ko n kco, .slice no nn nco, .slice lo n lco, .int .i64 (k : Nat), .int .i64 most, .int .i64 (t : Nat), u6, u7, u8, u9, u10, u11, u12, u13, u14, .int .i64 (n : Nat), u16, u17, u18, u19, u20, u21, u22, u23, u24, u25, u26, u27, u28, u29, u30, u31, u32, u33, u34, u35, u36, u37, u38, u39, u40, u41, u42, u43, u44, u45, u46, u47, u48, u49, u50, u51, u52, u53, u54, u55, u56, u57, u58, u59, u60, u61, u62, u63, u64, u65, u66, u67, u68, u69, u70, u71, u72, u73, u74, u75, u76, u77, u78, u79, u80, u81, u82, u83, u84, u85, u86, u87, u88, u89, u90, u91, u92, u93, u94, u95, u96, u97, u98, u99, u100, u101, u102, u103, u104, u105, u106, u107, u108, u109, u110, u111, u112, u113, u114, u115, u116, u117, u118, u119, u120, u121, u122, u123, u124, u125, u126, u127, u128, u129, u130, u131, u132, u133, u134, u135, u136, u137, u138, u139, u140, u141, u142, u143, u144, u145, u146, u147, u148, u149, u150, u151, u152, u153, u154, u155, u156, u157, u158, u159, u160, u161, u162, u163, u164, u165, u166, u167, u168, u169, u170, u171, u172, u173, u174, u175, u176, u177, u178, u179, u180, u181, u182, u183, u184, u185, u186, u187, u188, u189, u190, u191, u192, u193, u194, u195, u196, u197, u198, u199, u200, u201, u202, u203, u204, u205, u206, u207, u208, u209, u210, u211, u212, u213, u214, u215, u216, u217, u218, u219, u220, u221, u222, u223, u224, u225, u226, u227, u228, u229, u230, u231, u232, u233, u234, u235, u236, u237, u238, u239, u240, u241, u242, u243, u244, u245, u246, u247, u248, u249, u250, u251, u252, u253, u254, u255, u256, u257, u258, u259, u260, u261, u262, u263, u264, u265, u266, u267, u268, u269, u270, u271, u272, u273, u274, u275, u276, u277, u278, u279, u280, u281, u282, u283, u284, u285, u286, u287, u288, u289, u290, u291, u292, u293, u294, u295, u296, u297, u298, u299, u300, u301, u302, u303, u304, u305, u306, u307, u308, u309, u310, u311, u312, u313, u314, u315, u316, u317, u318, u319, u320, u321, u322, u323, u324, u325, u326, u327, u328, u329, u330, u331, u332, u333, u334, u335, u336, u337], []⟩ w3 := by
  conv => arg 2; whnf
  conv at hcont => enter [a, w', 1, 2]; whnf
  go_wp2_with fail
  refine (zznew_any none none none 0 0 0 0 0 0 (fun _ => 0) most true _ (by omega) (In.nil2 _ _ _)).mono ?_
  rintro e w4 ⟨P, rfl, hP, hb4, hrow, hlim⟩
  have fa0 : FA (fun b => w3.heap.size ≤ b) w4 P most true (.slice none 0 0) (.slice none 0 0) (.slice (some ⟨w3.heap.size, 0, none⟩) 0 0) [] [] [] :=
    ⟨hrow, World.ownsRow_nil _ _ _ _, World.ownsRow_nil _ _ _ _, own_of_row hlim (by decide) [] rfl (fun i hi => absurd hi (by omega)), Nat.le_of_lt hP, (fun b hb => by cases hb), (fun b hb => by cases hb), (fun b hb => by cases hb; exact Nat.le_refl _)⟩
  have HFA0 : Hid _ := fa0
  have hK4 := hK3.later hb4
  have hN4 := hN3.later hb4
  have hL4 := hL3.later hb4
  have hsz4 := hb4.size
  have hsz0 : Hid (w.heap.size ≤ w3.heap.size) := hb03.size
  have hb04 : Below w.heap.size w w4 := hb03.trans (hb4.mono hb03.size)
  clear hK3 hN3 hL3 hrow hlim hb03 hb4 fa0
  go_wp2
  go_loopw [18] (fun i wr => ∃ (j : Nat) (aK aN aM : Option Addr) (cK cN cM : Nat), j ≤ n ∧ i = .int .i64 j ∧
      FA (fun b => w3.heap.size ≤ b) wr P most true (.slice aK (stAt most true t k (sx k Ks Ns Ls) j).length cK) (.slice aN ((stAt most true t k (sx k Ks Ns Ls) j).length * k) cN) (.slice aM (stAt most true t k (sx k Ks Ns Ls) j).length cM)
        (keysV (stAt most true t k (sx k Ks Ns Ls) j)) (needV (stAt most true t k (sx k Ks Ns Ls) j)) (limsV (stAt most true t k (sx k Ks Ns Ls) j)) ∧ Fr (fun b => w3.heap.size ≤ b) w4 wr) (fun i _ => n - (intOf i).toNat)
  case atStart => exact ⟨0, none, none, _, 0, 0, 0, Nat.zero_le _, rfl, by simpa [stAt, keysV, needV, limsV] using HFA0.out, Fr.refl _ _⟩
  case round =>
    clear HFA0
    obtain ⟨j, aK, aN, aM, cK, cN, cM, hj, rfl, hfa, hfr⟩ := hrel
    have hbr := hfr.below (B := w3.heap.size) (fun b h => h)
    by_cases hlt : j < n
    · obtain rfl := HKO.out (by omega)
      obtain rfl := HLO.out (by omega)
      obtain ⟨gK, oK, eK, _, cellk⟩ := (hK4.later hbr).cell j hlt
      cases eK
      rw [Nat.zero_add] at cellk
      obtain ⟨gL, oL, eL, _, celll⟩ := (hL4.later hbr).cell j hlt
      cases eL
      rw [Nat.zero_add] at celll
      have hS : ∀ b, wr.drew.heap.size ≤ b → w3.heap.size ≤ b := fun b hb => Nat.le_trans (Nat.le_trans hsz4 hfr.size) hb
      have hlen := stAt_len most true t k (sx k Ks Ns Ls) j
      obtain ⟨jk, hjk⟩ : ∃ jk, j * k = jk := ⟨_, rfl⟩
      obtain ⟨jk1, hjk1⟩ : ∃ jk1, (j + 1) * k = jk1 := ⟨_, rfl⟩
      have hjs : jk1 = jk + k := by rw [← hjk1, ← hjk, Nat.add_mul, Nat.one_mul]
      have hjn : jk1 ≤ nn := by rw [← hjk1, hnk.out]; exact Nat.mul_le_mul_right k hlt
      have hlk : (stAt most true t k (sx k Ks Ns Ls) j).length * k ≤ jk := by rw [← hjk]; exact Nat.mul_le_mul_right k hlen
      have hnd : In w3.heap.size wr.drew (if nco = jk then no else Option.map (fun x => x.add jk) no) k (nco - jk) (fun i => .int .i64 ((sx k Ks Ns Ls j).at i)) :=
        ((hN4.later (hfr.drew.below (B := w3.heap.size) (fun b h => h))).cut jk k (by omega)).congr (fun i hi => by rw [sx_at _ _ _ _ _ _ hi, hjk])
      have hcall0 := zzadd_any (fun b => w3.heap.size ≤ b) w3.heap.size P most true k t (stAt most true t k (sx k Ks Ns Ls) j) (sx k Ks Ns Ls j) aK aN aM cK cN cM _ (nco - jk) wr.drew hS (fun b h => h) (hfa.heap rfl) (wid_stAt Ks Ns Ls j) (sx_len ..) hnd (by omega) (by omega) (by omega) (by omega) (htl j hlt)
        (fun s hs => by obtain ⟨i, hi, rfl⟩ := stAt_mem hs; exact ⟨htl i (by omega), hsz i (by omega)⟩) (hsz j hlt)
      have hGS : ∀ w', (∃ aK' aN' aM' cK' cN' cM', FA (fun b => w3.heap.size ≤ b) w' P most true (.slice aK' (stAt most true t k (sx k Ks Ns Ls) (j + 1)).length cK') (.slice aN' ((stAt most true t k (sx k Ks Ns Ls) (j + 1)).length * k) cN') (.slice aM' (stAt most true t k (sx k Ks Ns Ls) (j + 1)).length cM')
          (keysV (stAt most true t k (sx k Ks Ns Ls) (j + 1))) (needV (stAt most true t k (sx k Ks Ns Ls) (j + 1))) (limsV (stAt most true t k (sx k Ks Ns Ls) (j + 1))) ∧ Fr (fun b => w3.heap.size ≤ b) wr.drew w') →
          w'.cell? ⟨wk, j, none⟩ = some (.string (Ks j)) ∧ w'.cell? ⟨wl, j, none⟩ = some (.int .u64 (Ls j)) := by
        rintro w' ⟨_, _, _, _, _, _, _, r⟩
        have hb := r.below (B := w3.heap.size) (fun b h => h)
        exact ⟨(hb.cell (p := ⟨wk, j, none⟩) (by assumption)).trans cellk, (hb.cell (p := ⟨wl, j, none⟩) (by assumption)).trans celll⟩
      have hcn := hN4.le
      have wr1 := wrap_mul hjk (by omega)
      have wr2 : IntKind.i64.wrap (((j : Int) + 1) * (k : Int)) = (jk1 : Int) := wrap_mul hjk1 (by omega)
      have wr3 : IntKind.i64.wrap ((j : Int) + 1) = (j : Int) + 1 := by rw [IntKind.wrap_i64]; omega
      go_upto_region 37 with fail
      refine reg10c _ _ _ _ _ _ _ _ _ _ _ _ _ _ _ _ _ _ _ _ _ _ _ _ _ _ _ _ _ _ _ _ _ _ _ _ _ _ _ _ _ _ _ _ _ _ _ _ _ _ _ _ _ _ _ _ _ _ _ _ _ _ _ _ _ _ _ _ _ _ _ _ _ _ _ _ _ _ _ _ _ _ _ _ _ _ _ _ _ _ _ _ _ _ _ _ _ _ _ _ _ _ _ _ _ _ _ _ _ _ _ _ _ _ _ _ _ _ _ _ _ _ _ _ _ _ _ _ _ _ _ _ _ _ _ _ _ _ _ _ _ _ _ _ _ _ _ _ _ _ _ _ _ _ _ _ _ _ _ _ _ _ _ _ _ _ _ _ _ _ _ _ _ _ _ _ _ _ _ _ _ _ _ _ _ _ _ _ _ _ _ _ _ _ _ _ _ _ _ _ _ _ _ _ _ _ _ _ _ _ _ _ _ _ _ _ _ _ _ _ _ _ _ _ _ _ _ _ _ _ _ _ _ _ _ _ _ _ _ _ _ _ _ _ _ _ _ _ _ _ _ _ _ _ _ _ _ _ _ _ _ _ _ _ _ _ _ _ _ _ _ _ _ _ _ _ _ _ _ _ _ _ _ _ _ _ _ _ _ _ _ _ _ _ _ _ _ _ _ _ _ _ _ _ _ _ _ _ _ _ _ _ _ _ _ _ _ _ _ _ _ _ _ _ _ _ _ _ _ _ _ P wk wl j t k jk jk1 n nn kco nco lco no (Ks j) (Ls j) _ _ wr _ _ cellk celll hcall0 hGS hlt (by omega) (by omega) (by omega) (by omega) wr1 wr2 wr3 ?_
      intro x0 x1 x2 x3 x4 x5 x6 x7 x8 x9 x10 x11 x12 x13 x14 x15 x16 x17 x18 x19 w5 hG
      obtain ⟨aK', aN', aM', cK', cN', cM', f5, r5⟩ := hG
      rw [show addS most true t k (stAt most true t k (sx k Ks Ns Ls) j) (sx k Ks Ns Ls j) = stAt most true t k (sx k Ks Ns Ls) (j + 1) from rfl] at f5
      have HF : Hid _ := f5
      have hr5 := hfr.drew.trans r5
      have HR : Hid _ := hr5
      have hb5 := hr5.below (B := w3.heap.size) (fun b h => h)
      have hK5 := hK4.later hb5
      have hN5 := hN4.later hb5
      have hL5 := hL4.later hb5
      have hs35 : w3.heap.size ≤ w5.heap.size := Nat.le_trans hsz4 hr5.size
      obtain ⟨c, hc1, hc2⟩ := addS_last (most := most) (prune := true) (t := t) (k := k) (st := stAt most true t k (sx k Ks Ns Ls) j) (nw := sx k Ks Ns Ls j)
      have hl1 := stAt_most (most := most) (prune := true) (t := t) (k := k) (f := sx k Ks Ns Ls) h1m (j + 1)
      have hl2 := stAt_len most true t k (sx k Ks Ns Ls) (j + 1)
      have hwid : Wid k (stAt most true t k (sx k Ks Ns Ls) (j + 1)) := wid_stAt Ks Ns Ls (j + 1)
      obtain ⟨A, hA⟩ : ∃ A, stAt most true t k (sx k Ks Ns Ls) (j + 1) = A := ⟨_, rfl⟩
      have hc1' : A.length = c + 1 := by rw [← hA]; exact hc1
      have hc2' : A[c]? = some (sx k Ks Ns Ls j) := by rw [← hA]; exact hc2
      rw [hA] at f5 hl1 hl2 hwid
      have HA : Hid _ := hA
      obtain ⟨V, c0, c1, c2, hPl, iK, iN, iM, hV⟩ := store_reads (sx k Ks Ns Ls j) (c + 1) hc1' hwid f5
      have HGc : Hid (A.getD c (sx k Ks Ns Ls j) = sx k Ks Ns Ls j) := by show A.getD c _ = _; simp [List.getD_eq_getElem?_getD, hc2']
      obtain ⟨l, hl⟩ : ∃ l, c + 1 = l := ⟨_, rfl⟩
      rw [hc1', hl] at hl1 hl2
      rw [hl] at c0 c1 c2 iK iN iM
      obtain ⟨lk, hlk2⟩ : ∃ lk, l * k = lk := ⟨_, rfl⟩
      rw [hlk2] at c1 iN
      have hlkn : lk ≤ nn := by rw [← hlk2, hnk.out]; exact Nat.mul_le_mul_right k (by omega)
      have hck : c * k + k ≤ lk := by rw [← hlk2, ← hl, Nat.add_mul, Nat.one_mul]; exact Nat.le_refl _
      have hjk2 : j * k + k ≤ nn := by rw [hjk]; omega
      have wl1 := wrap_mul hlk2 (by omega)
      have hcl : c < l := by omega
      have hlb : l ≤ 1025 := by omega
      have hcb : c ≤ 1025 := by omega
      have d1 : decide ((l : Int) < 1) = false := decide_eq_false (by omega)
      have d2 : decide (most < (l : Int)) = false := decide_eq_false (by omega)
      have d3 : decide ((j : Int) + 1 < (l : Int)) = false := decide_eq_false (by omega)
      have d4 : ((l : Int) != (l : Int)) = false := by simp
      have d5 : ((lk : Int) != (lk : Int)) = false := by simp
      have e1 : (l : Int) - 1 = (c : Int) := by omega
      have HV : Hid _ := hV
      clear hl hl1 hl2 hc1 hc2 hc1' hc2' hwid hA f5 r5 hr5 hb5 hcall0 hGS hnd hfa hfr hbr hS cellk celll hK4 hN4 hL4 hb04 wr1 wr2 hjk hjk1 hjs hlk hlen hlk2 hV
      go_wp2_with fail
      refine (zzkeys_any P _ _ aK' l cK' rfl c0).mono ?_
      rintro e w' ⟨rfl, hw'⟩
      subst w'
      go_wp2_with fail
      refine (zzneed_any P _ _ aN' lk cN' rfl c1).mono ?_
      rintro e w' ⟨rfl, hw'⟩
      subst w'
      go_wp2_with fail
      refine (zzlimits_any P aM' l cM' (fun i => (A.getD i (sx k Ks Ns Ls j)).lim) _ (by omega) hPl c2 iM).mono ?_
      rintro e w6 ⟨rfl, hb6, hrow6⟩
      have iN6 := iN.next hb6
      have hN6 := hN5.later (hb6.mono hs35)
      obtain ⟨gA, oA, rfl, _, cA⟩ := (iK.next hb6).cell c hcl
      obtain ⟨gB, oB, eB, _, cB⟩ := (hK5.later (hb6.mono hs35)).cell j hlt
      cases eB
      rw [Nat.zero_add] at cB
      obtain ⟨gC, oC, eC, _, cC⟩ := (hL5.later (hb6.mono hs35)).cell j hlt
      cases eC
      rw [Nat.zero_add] at cC
      have cD : w6.cell? ⟨w5.heap.size, c, none⟩ = some (.int .u64 (A.getD c (sx k Ks Ns Ls j)).lim) := hrow6.cell hcl
      have hk1 : (A.getD c (sx k Ks Ns Ls j)).key = Ks j := by rw [HGc.out]; rfl
      have hk2 : (A.getD c (sx k Ks Ns Ls j)).lim = Ls j := by rw [HGc.out]; rfl
      rw [hk1] at cA
      rw [hk2] at cD
      have HS : Hid (sameB (fun r => V (c * k + r)) (fun r => Ns (j * k + r)) k = true) := by
        refine (sameB_iff _ _ _).2 (fun r hr => ?_)
        show V (c * k + r) = Ns (j * k + r)
        rw [HV.out c r hr, HGc.out, sx_at _ _ _ _ _ _ hr]
      have HCx : Hid _ := fun dd => same_any aN' no lk cN' nn nco c j k (c * k) (j * k) V Ns w6.heap.size w3.heap.size (w6.drewN dd) rfl rfl hck hjk2 (by omega) (by omega) ⟨iN6.le, iN6.nil, iN6.cell⟩ ⟨hN6.le, hN6.nil, hN6.cell⟩
      have HFA : Hid _ := HF.out.later hb6
      have HFR : Hid _ := HR.out.trans (Fr.of_below hb6 (fun b hb => Nat.le_trans hs35 hb))
      have hi1 : (c : Int) < (l : Int) := by omega
      have hi2 : (j : Int) < (n : Int) := by omega
      clear hk1 hk2 iK iN iM iN6 hN6 hK5 hN5 hL5 hb6 hrow6 c0 c1 c2 HF HR HGc HV hck hjk2
      go_wp2_with fail
      go_quiet (fail)
      go_wp2_with fail
      refine Calls.mono (HCx.out _) ?_
      rintro e w' ⟨rfl, d6, rfl⟩
      have hs := HS.out
      rw [hs]
      clear hs
      go_wp2
      go_roundw
      case rel => exact ⟨j + 1, _, aN', aM', cK', cN', cM', by omega, by go_num, HFA.out.heap rfl, HFR.out.drewN _⟩
      case measure => simp [intOf]; omega
    · obtain rfl : j = n := by omega
      obtain ⟨n, rfl⟩ : ∃ n : Nat, n = j := ⟨_, rfl⟩
      have hl2 := stAt_len most true t k (sx k Ks Ns Ls) n
      have hsub := stAt_sub (most := most) (prune := true) (t := t) (k := k) (f := sx k Ks Ns Ls) n
      have hcov : ∀ a b, a < b → ∀ hb : b < (stAt most true t k (sx k Ks Ns Ls) n).length, ∀ ha : a < (stAt most true t k (sx k Ks Ns Ls) n).length, cov t k (stAt most true t k (sx k Ks Ns Ls) n)[b] (stAt most true t k (sx k Ks Ns Ls) n)[a] = false := fun a b hab hb ha => stAt_cov n hab hb
      have hmem : ∀ s, s ∈ stAt most true t k (sx k Ks Ns Ls) n → t ≤ s.key.size ∧ s.key.size ≤ 1048576 := fun s hs => by
        obtain ⟨i, hi, rfl⟩ := stAt_mem hs
        exact ⟨htl i hi, hsz i hi⟩
      have hwid : Wid k (stAt most true t k (sx k Ks Ns Ls) n) := wid_stAt Ks Ns Ls n
      obtain ⟨A, hA⟩ : ∃ A, stAt most true t k (sx k Ks Ns Ls) n = A := ⟨_, rfl⟩
      rw [hA] at hfa hl2 hsub hmem hwid
      simp only [hA] at hcov
      obtain ⟨m, hm⟩ : ∃ m, A.length = m := ⟨_, rfl⟩
      obtain ⟨V, c0, c1, c2, hPl, iK, iN, iM, hV⟩ := store_reads (sx k Ks Ns Ls 0) m hm hwid hfa
      obtain ⟨mk, hmk⟩ : ∃ mk, m * k = mk := ⟨_, rfl⟩
      rw [hmk] at c1 iN
      rw [hm] at hl2
      have hmkn : mk ≤ nn := by rw [← hmk, hnk.out]; exact Nat.mul_le_mul_right k hl2
      have wm := wrap_mul hmk (by omega)
      have HMK : Hid (m * k = mk) := hmk
      have HM : Hid (A.length = m) := hm
      have HG : Hid (∀ i (h : i < A.length), A.getD i (sx k Ks Ns Ls 0) = A[i]) := by
        intro i h
        simp [List.getD_eq_getElem?_getD, h]
      have HV : Hid _ := hV
      have HW : Hid (∀ i, i < m → (A.getD i (sx k Ks Ns Ls 0)).need.length = k) := by
        intro i h
        rw [HG.out i (by rw [HM.out]; exact h)]
        exact hwid _ (List.getElem_mem _)
      have HZ : Hid (∀ i, i < m → t ≤ (A.getD i (sx k Ks Ns Ls 0)).key.size ∧ (A.getD i (sx k Ks Ns Ls 0)).key.size ≤ 1048576) := by
        intro i h
        rw [HG.out i (by rw [HM.out]; exact h)]
        exact hmem _ (List.getElem_mem _)
      have HC : Hid (∀ a b, a < b → b < m → cov t k (A.getD b (sx k Ks Ns Ls 0)) (A.getD a (sx k Ks Ns Ls 0)) = false) := by
        intro a b hab hb
        have h1 : b < A.length := by rw [HM.out]; exact hb
        have h2 : a < A.length := by omega
        rw [HG.out b h1, HG.out a h2]
        exact hcov a b hab h1 h2
      have HMAT : Hid (Mat A n (sx k Ks Ns Ls) 0 0) := by
        show (A.drop 0).Sublist (((List.range n).map (sx k Ks Ns Ls)).drop 0)
        simpa using hsub
      have hKr := hK4.later hbr
      have hNr := hN4.later hbr
      have hLr := hL4.later hbr
      have hszr := Nat.le_trans hsz4 hfr.size
      have hb0r : Below w.heap.size w wr := hb04.trans (hbr.mono hsz0.out)
      have d4 : ((m : Int) != (m : Int)) = false := by simp
      have d5 : ((mk : Int) != (mk : Int)) = false := by simp
      clear hfa hsub hcov hmem hwid hA hm hmk hV hK4 hN4 hL4 hb04 hbr hfr hsz htl
      go_wp2_with fail
      refine (zzkeys_any P _ _ aK m cK rfl c0).mono ?_
      rintro e w' ⟨rfl, hw'⟩
      subst w'
      go_wp2_with fail
      refine (zzneed_any P _ _ aN mk cN rfl c1).mono ?_
      rintro e w' ⟨rfl, hw'⟩
      subst w'
      go_wp2_with fail
      refine (zzlimits_any P aM m cM (fun i => (A.getD i (sx k Ks Ns Ls 0)).lim) _ (by omega) hPl c2 iM).mono ?_
      rintro e w9 ⟨rfl, hb9, hrow9⟩
      have iK9 := iK.next hb9
      have iN9 := iN.next hb9
      have hs9 : w3.heap.size ≤ w9.heap.size := Nat.le_trans hszr hb9.size
      have jK9 := (hKr.later (hb9.mono hszr)).lift hs9
      have jN9 := (hNr.later (hb9.mono hszr)).lift hs9
      have jL9 := (hLr.later (hb9.mono hszr)).lift hs9
      have HB9 : Hid (Below w.heap.size w w9) := hb0r.trans (hb9.mono hb0r.size)
      clear iK iN iM hKr hNr hLr hb9 c0 c1 c2 hPl hb0r
      go_upto_if 239 with fail
      go_cut [] from 228 (fun w2 => w2 = w9)
      case first =>
        go_wp2
        go_meet
        case rel => rfl
      case rest =>
        subst hcut
        apply_assumption
        exact tail10 _ _ _ _ _ _ _ _ _ _ _ _ _ _ _ _ _ _ _ _ _ _ _ _ _ _ _ _ _ _ _ _ _ _ _ _ _ _ _ _ _ _ _ _ _ _ _ _ _ _ _ _ _ _ _ _ _ _ _ _ _ _ _ _ _ _ _ _ _ _ _ _ _ _ _ _ _ _ _ _ _ _ _ _ _ _ _ _ _ _ _ _ _ _ _ _ _ _ _ _ _ _ _ _ _ _ _ _ _ _ _ _ _ _ _ _ _ _ _ _ _ _ _ _ _ _ _ _ _ _ _ _ _ _ _ _ _ _ _ _ _ _ _ _ _ _ _ _ _ _ _ _ _ _ _ _ _ _ _ _ _ _ _ _ _ _ _ _ _ _ _ _ _ _ _ _ _ _ _ _ _ _ _ _ _ _ _ _ _ _ _ _ _ _ _ _ _ _ _ _ _ _ _ _ _ _ _ _ _ _ _ _ _ _ _ _ _ _ _ _ _ _ _ _ _ _ _ _ _ _ _ _ _ _ _ _ _ _ _ _ _ _ _ _ _ _ _ _ _ _ _ _ _ _ _ _ _ _ _ _ _ _ _ _ _ _ _ _ _ _ _ _ _ _ _ _ _ _ _ _ _ _ _ _ _ _ _ _ _ _ _ _ _ _ _ _ _ _ _ _ _ _ _ _ _ _ _ _ _ _ _ _ _ _ _ _ _ _ _ _ _ _ _ _ _ _ _ _ ko no lo aK aN n kco nn nco lco k t m mk cK cN _ Ks Ns Ls (sx k Ks Ns Ls) A (fun i => A.getD i (sx k Ks Ns Ls 0)) V w _ (by omega) hk (by omega) HMK (by omega) (by omega) hnk (Eq.refl (sx k Ks Ns Ls)) HM HG HV HW HZ HMAT.out HC iK9 iN9 hrow9 jK9 jN9 jL9 HB9
end Go.Proofs.Qxb6600123a
