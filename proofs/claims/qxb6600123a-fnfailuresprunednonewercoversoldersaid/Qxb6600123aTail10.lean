/-
  Seat b6600123a: FnFailuresPrunedNoNewerCoversOlder: the walk of what is asked of the store at the end.
-/
import Derived.Test.Qxb6600123aLaw10Plain
import Derived.Test.Qxb6600123aAdd8
import Derived.Test.Qxb6600123aReg61
import Derived.Test.Qxb6600123aReg72
namespace Go.Proofs.Qxb6600123a
open Go.RowKit Go.Deep
set_option linter.unusedVariables false
set_option linter.unusedSimpArgs false
attribute [local go_sem ↓] Go.wp_at_zero Go.wp_at_succ

/-- Two states of one width that tell the same. -/
theorem sta_eq {k : Nat} {a b : Sta} (ha : a.need.length = k) (hb : b.need.length = k) (h1 : a.key = b.key) (h2 : a.lim = b.lim) (h3 : ∀ r, r < k → a.at r = b.at r) : a = b := by
  cases a with
  | mk ka na la =>
  cases b with
  | mk kb nb lb =>
    simp only at h1 h2 ha hb
    subst h1 h2
    have : na = nb := by
      apply List.ext_getElem (by omega)
      intro i h1 h2
      have := h3 i (by omega)
      simpa [Sta.at, List.getD_eq_getElem?_getD, h1, h2] using this
    rw [this]

set_option maxRecDepth 1000000 in
set_option maxHeartbeats 4000000 in
theorem tail10 (u4 u6 u7 u8 u9 u10 u11 u12 u13 u14 u16 u17 u18 u19 u20 u21 u22 u23 u28 u29 u30 u31 u32 u33 u34 u35 u36 u37 u38 u39 u40 u41 u42 u43 u44 u45 u46 u47 u48 u49 u50 u51 u52 u53 u54 u55 u56 u57 u58 u59 u60 u61 u62 u63 u64 u65 u66 u67 u68 u69 u70 u71 u72 u73 u74 u75 u76 u77 u78 u79 u80 u81 u82 u83 u84 u85 u86 u87 u88 u89 u90 u91 u92 u93 u94 u95 u96 u97 u98 u99 u100 u101 u102 u103 u104 u105 u106 u107 u108 u109 u110 u111 u112 u113 u114 u115 u116 u117 u118 u119 u120 u121 u122 u123 u124 u125 u126 u127 u128 u129 u130 u131 u132 u133 u134 u135 u136 u137 u138 u139 u140 u141 u142 u143 u144 u145 u146 u147 u148 u149 u150 u151 u152 u153 u154 u155 u156 u157 u158 u159 u160 u161 u162 u163 u164 u165 u166 u167 u168 u169 u170 u171 u172 u173 u174 u175 u176 u177 u178 u179 u180 u181 u182 u183 u184 u185 u186 u187 u188 u189 u190 u191 u192 u193 u194 u195 u196 u197 u198 u199 u200 u201 u202 u203 u204 u205 u206 u207 u208 u209 u210 u211 u212 u213 u214 u215 u216 u217 u218 u219 u220 u221 u222 u223 u224 u225 u226 u227 u228 u229 u230 u231 u232 u233 u234 u235 u236 u237 u238 u239 u240 u241 u242 u243 u244 u245 u246 u247 u248 u249 u250 u251 u252 u253 u254 u255 u256 u257 u258 u259 u260 u261 u262 u263 u264 u265 u266 u267 u268 u269 u270 u271 u272 u273 u274 u275 u276 u277 u278 u279 u280 u281 u282 u283 u284 u285 u286 u287 u288 u289 u290 u291 u292 u293 u294 u295 u296 u297 u298 u299 u300 u301 u302 u303 u304 u305 u306 u307 u308 u309 u310 u311 u312 u313 u314 u315 u316 u317 u318 u319 u320 u321 u322 u323 u324 u325 u326 u327 u328 u329 u330 u331 u332 u333 u334 u335 u336 u337 : Value) (ko no lo aK aN : Option Addr) (n kco nn nco lco k t m mk cK cN gM : Nat) (Ks : Nat → ByteArray) (Ns Ls : Nat → Int) (f : Nat → Sta) (st : List Sta) (G : Nat → Sta) (V : Nat → Int) (w w9 : World)
    (hn : n ≤ 1024) (hk : k ≤ 65536) (hmn : m ≤ n) (hmk : Hid (m * k = mk)) (hmk2 : mk ≤ 131072) (hnn2 : nn ≤ 131072) (hnk : Hid (nn = n * k)) (HF : Hid (sx k Ks Ns Ls = f)) (HST : Hid (st.length = m)) (HG : Hid (∀ i (h : i < st.length), G i = st[i]))
    (HV : Hid (∀ i r, r < k → V (i * k + r) = (G i).at r)) (HW : Hid (∀ i, i < m → (G i).need.length = k)) (HZ : Hid (∀ i, i < m → t ≤ (G i).key.size ∧ (G i).key.size ≤ 1048576))
    (hmat : Mat st n f 0 0) (HC : Hid (∀ a b, a < b → b < m → cov t k (G b) (G a) = false))
    (iK : In w9.heap.size w9 aK m cK (fun i => .string (G i).key)) (iN : In w9.heap.size w9 aN mk cN (fun x => .int .i64 (V x))) (hrow : w9.rowIs gM 41 m (fun i => .int .u64 (G i).lim))
    (jK : In w9.heap.size w9 ko n kco (fun i => .string (Ks i))) (jN : In w9.heap.size w9 no nn nco (fun i => .int .i64 (Ns i))) (jL : In w9.heap.size w9 lo n lco (fun i => .int .u64 (Ls i))) (HB9 : Hid (Below w.heap.size w w9)) :
    Code.wp Try.prog ((Try.f10.body.bind (findTail 57)).getD .skip) (bodyPost Try.prog Try.f10 fun e w' => e = .returned (.bool true) ∧ Below w.heap.size w w') ⟨#[.slice ko n kco, .slice no nn nco, .slice lo n lco, .int .i64 (k : Nat), u4, .int .i64 (t : Nat), u6, u7, u8, u9, u10, u11, u12, u13, u14, .int .i64 (n : Nat), u16, u17, u18, u19, u20, u21, u22, u23, .slice aK m cK, .slice aN mk cN, .slice (some ⟨gM, 0, none⟩) m m, .int .i64 (m : Nat), u28, u29, u30, u31, u32, u33, u34, u35, u36, u37, u38, u39, u40, u41, u42, u43, u44, u45, u46, u47, u48, u49, u50, u51, u52, u53, u54, u55, u56, u57, u58, u59, u60, u61, u62, u63, u64, u65, u66, u67, u68, u69, u70, u71, u72, u73, u74, u75, u76, u77, u78, u79, u80, u81, u82, u83, u84, u85, u86, u87, u88, u89, u90, u91, u92, u93, u94, u95, u96, u97, u98, u99, u100, u101, u102, u103, u104, u105, u106, u107, u108, u109, u110, u111, u112, u113, u114, u115, u116, u117, u118, u119, u120, u121, u122, u123, u124, u125, u126, u127, u128, u129, u130, u131, u132, u133, u134, u135, u136, u137, u138, u139, u140, u141, u142, u143, u144, u145, u146, u147, u148, u149, u150, u151, u152, u153, u154, u155, u156, u157, u158, u159, u160, u161, u162, u163, u164, u165, u166, u167, u168, u169, u170, u171, u172, u173, u174, u175, u176, u177, u178, u179, u180, u181, u182, u183, u184, u185, u186, u187, u188, u189, u190, u191, u192, u193, u194, u195, u196, u197, u198, u199, u200, u201, u202, u203, u204, u205, u206, u207, u208, u209, u210, u211, u212, u213, u214, u215, u216, u217, u218, u219, u220, u221, u222, u223, u224, u225, u226, u227, u228, u229, u230, u231, u232, u233, u234, u235, u236, u237, u238, u239, u240, u241, u242, u243, u244, u245, u246, u247, u248, u249, u250, u251, u252, u253, u254, u255, u256, u257, u258, u259, u260, u261, u262, u263, u264, u265, u266, u267, u268, u269, u270, u271, u272, u273, u274, u275, u276, u277, u278, u279, u280, u281, u282, u283, u284, u285, u286, u287, u288, u289, u290, u291, u292, u293, u294, u295, u296, u297, u298, u299, u300, u301, u302, u303, u304, u305, u306, u307, u308, u309, u310, u311, u312, u313, u314, u315, u316, u317, u318, u319, u320, u321, u322, u323, u324, u325, u326, u327, u328, u329, u330, u331, u332, u333, u334, u335, u336, u337], []⟩ w9 := by
  conv => arg 2; whnf
  have HIK : Hid (∀ i, i < m → i * k + k ≤ mk) := by
    intro i hi
    have := Nat.mul_le_mul_right k (show i + 1 ≤ m from hi)
    rw [hmk.out, Nat.add_mul, Nat.one_mul] at this
    exact this
  have HJK : Hid (∀ i, i < n → i * k + k ≤ nn) := by
    intro i hi
    have := Nat.mul_le_mul_right k (show i + 1 ≤ n from hi)
    rw [← hnk.out, Nat.add_mul, Nat.one_mul] at this
    exact this
  have HMAT : Hid _ := hmat
  clear hmat
  go_wp2
  go_loopw [28, 29] (fun p e wx => ∃ pn en d : Nat, p = .int .i64 (pn : Nat) ∧ e = .int .i64 (en : Nat) ∧ en ≤ m ∧ pn ≤ n ∧ Mat st n f en pn ∧ wx = w9.drewN d) (fun _ e _ => m - (intOf e).toNat)
  case atStart => exact ⟨0, 0, 0, rfl, rfl, Nat.zero_le _, Nat.zero_le _, HMAT.out, rfl⟩
  case round =>
    obtain ⟨pn, en, d, rfl, rfl, hen, hpn, hm0, rfl⟩ := hrel
    have HM0 : Hid _ := hm0
    clear hm0 HMAT
    by_cases hlt : en < m
    · have hes : en < st.length := by rw [HST.out]; exact hlt
      have HGE : Hid (G en = st[en]) := HG.out en hes
      go_wp2
      go_loopw [28] (fun p wx => ∃ pn d : Nat, p = .int .i64 (pn : Nat) ∧ pn ≤ n ∧ Mat st n f en pn ∧ wx = w9.drewN d) (fun p _ => n - (intOf p).toNat)
      case atStart => exact ⟨pn, d, rfl, hpn, HM0.out, rfl⟩
      case round =>
        clear hpn HM0
        obtain ⟨pn, d, rfl, hpn, hm0, rfl⟩ := hrel
        have hpl := hm0.lt hes
        have HM0 : Hid _ := hm0
        clear hm0
        obtain ⟨bs, hbs⟩ : ∃ bs, sameB (fun r => Ns (pn * k + r)) (fun r => V (en * k + r)) k = bs := ⟨_, rfl⟩
        obtain ⟨bk, hbk⟩ : ∃ bk, ((Ks pn).toList == (G en).key.toList) = bk := ⟨_, rfl⟩
        obtain ⟨bl, hbl⟩ : ∃ bl, (Ls pn == (G en).lim) = bl := ⟨_, rfl⟩
        have HNE : Hid ((bk && bl && bs) = false → st[en] ≠ f pn) := by
          intro h0 he
          have e1 : G en = f pn := HGE.out.trans he
          have a1 : bk = true := by rw [← hbk, e1, ← HF.out]; exact beq_self_eq_true _
          have a2 : bl = true := by rw [← hbl, e1, ← HF.out]; exact beq_self_eq_true _
          have a3 : bs = true := by
            rw [← hbs]
            refine (sameB_iff _ _ _).2 (fun r hr => ?_)
            show Ns (pn * k + r) = V (en * k + r)
            rw [HV.out en r hr, e1, ← HF.out, sx_at _ _ _ _ _ _ hr]
          rw [a1, a2, a3] at h0
          cases h0
        have hk2 := HIK.out en hlt
        have hk3 := HJK.out pn hpl
        have hcall : ∀ dd, Calls Try.prog 36 #[.slice no nn nco, .int .i64 (pn : Nat), .slice aN mk cN, .int .i64 (en : Nat), .int .i64 (k : Nat)] ((w9.drewN d).drewN dd) fun r w' => r = .returned (.bool bs) ∧ ∃ n, w' = ((w9.drewN d).drewN dd).drewN n := by
          intro dd
          have h := same_any no aN nn nco mk cN pn en k (pn * k) (en * k) Ns V w9.heap.size w9.heap.size ((w9.drewN d).drewN dd) rfl rfl (by omega) (by omega) (by omega) (by omega) ⟨jN.le, jN.nil, jN.cell⟩ ⟨iN.le, iN.nil, iN.cell⟩
          rw [hbs] at h
          exact h
        obtain ⟨g1, o1, rfl, _, cA⟩ := jK.cell pn hpl
        obtain ⟨g2, o2, rfl, _, cB⟩ := iK.cell en hlt
        obtain ⟨g3, o3, rfl, _, cC⟩ := jL.cell pn hpl
        have cD : w9.cell? ⟨gM, en, none⟩ = some (.int .u64 (G en).lim) := hrow.cell hlt
        have HKB : Hid _ := hbk
        have HLB : Hid _ := hbl
        clear hk2 hk3 hbs hbk hbl
        go_upto_region 61 with fail
        refine reg61 _ _ _ _ _ _ _ _ _ _ _ _ _ _ _ _ _ _ _ _ _ _ _ _ _ _ _ _ _ _ _ _ _ _ _ _ _ _ _ _ _ _ _ _ _ _ _ _ _ _ _ _ _ _ _ _ _ _ _ _ _ _ _ _ _ _ _ _ _ _ _ _ _ _ _ _ _ _ _ _ _ _ _ _ _ _ _ _ _ _ _ _ _ _ _ _ _ _ _ _ _ _ _ _ _ _ _ _ _ _ _ _ _ _ _ _ _ _ _ _ _ _ _ _ _ _ _ _ _ _ _ _ _ _ _ _ _ _ _ _ _ _ _ _ _ _ _ _ _ _ _ _ _ _ _ _ _ _ _ _ _ _ _ _ _ _ _ _ _ _ _ _ _ _ _ _ _ _ _ _ _ _ _ _ _ _ _ _ _ _ _ _ _ _ _ _ _ _ _ _ _ _ _ _ _ _ _ _ _ _ _ _ _ _ _ _ _ _ _ _ _ _ _ _ _ _ _ _ _ _ _ _ _ _ _ _ _ _ _ _ _ _ _ _ _ _ _ _ _ _ _ _ _ _ _ _ _ _ _ _ _ _ _ _ _ _ _ _ _ _ _ _ _ _ _ _ _ _ _ _ _ _ _ _ _ _ _ _ _ _ _ _ _ _ _ _ _ _ _ _ _ _ _ _ _ _ _ _ _ _ _ _ _ _ _ _ _ _ _ _ _ _ _ _ _ _ _ _ g1 o1 g3 o3 g2 o2 gM pn en k n nn m mk _ nco _ cK cN no aN (Ks pn) (G en).key (Ls pn) (G en).lim bk bl bs (w9.drewN d) _ _ cA cB cC cD HKB.out HLB.out hcall hpl hlt ?_
        intro x0 x1 x2 x3 x4 x5 x6 x7 x8 x9 x10 x11 x12 x13 x14 x15 x16 x17 x18 x19 x20 x21 x22 x23 x24 x25 x26 x27 x28 x29 x30 x31 x32 nq
        clear hcall HKB HLB
        cases hb : (bk && bl && bs)
        · have HS : Hid (Mat st n f en (pn + 1)) := Mat.skip (st := st) (n := n) (f := f) (e := en) (p := pn) HM0.out hes hpl (HNE.out hb)
          clear hb HNE
          go_wp2
          go_roundw
          case rel => exact ⟨pn + 1, _, by go_num, by omega, HS.out, rfl⟩
          case measure => simp [intOf]; omega
        · have HS : Hid (Mat st n f (en + 1) (pn + 1)) := Mat.step (st := st) (n := n) (f := f) (e := en) (p := pn) HM0.out hes hpl
          have d1 : ((pn : Int) == (n : Int)) = false := by simp; omega
          clear hb HNE
          go_wp2
          go_roundw
          case rel => exact ⟨pn + 1, en + 1, _, by go_num, by go_num, by omega, by omega, HS.out, rfl⟩
          case measure => simp [intOf]; omega
    · clear HM0 hpn jK jN jL
      go_wp2
      go_loopw [30] (fun a wx => ∃ x d : Nat, a = .int .i64 (x : Nat) ∧ x ≤ m ∧ wx = w9.drewN d) (fun a _ => m - (intOf a).toNat)
      case atStart => exact ⟨0, d, rfl, Nat.zero_le _, rfl⟩
      case round =>
        obtain ⟨x, d, rfl, hx, rfl⟩ := hrel
        by_cases hxl : x < m
        · go_wp2
          go_loopw [31] (fun b wx => ∃ y d : Nat, b = .int .i64 (y : Nat) ∧ x < y ∧ y ≤ m ∧ wx = w9.drewN d) (fun b _ => m - (intOf b).toNat)
          case atStart => exact ⟨x + 1, d, by go_num, by omega, by omega, rfl⟩
          case round =>
            obtain ⟨y, d, rfl, hxy, hy, rfl⟩ := hrel
            by_cases hyl : y < m
            · have hcv := HC.out x y hxy hyl
              obtain ⟨xk, hxk⟩ : ∃ xk, x * k = xk := ⟨_, rfl⟩
              obtain ⟨xk1, hxk1⟩ : ∃ xk1, (x + 1) * k = xk1 := ⟨_, rfl⟩
              obtain ⟨yk, hyk⟩ : ∃ yk, y * k = yk := ⟨_, rfl⟩
              obtain ⟨yk1, hyk1⟩ : ∃ yk1, (y + 1) * k = yk1 := ⟨_, rfl⟩
              have hxs : xk1 = xk + k := by rw [← hxk1, ← hxk, Nat.add_mul, Nat.one_mul]
              have hys : yk1 = yk + k := by rw [← hyk1, ← hyk, Nat.add_mul, Nat.one_mul]
              have hxm := HIK.out x hxl
              have hym := HIK.out y hyl
              rw [hxk] at hxm
              rw [hyk] at hym
              have hcn := iN.le
              have px : In w9.heap.size w9 (if cN = xk then aN else Option.map (fun x => x.add xk) aN) k (cN - xk) (fun i => .int .i64 ((G x).at i)) := (iN.cut xk k hxm).congr (fun i hi => by rw [← hxk, HV.out x i hi])
              have py : In w9.heap.size w9 (if cN = yk then aN else Option.map (fun x => x.add yk) aN) k (cN - yk) (fun i => .int .i64 ((G y).at i)) := (iN.cut yk k hym).congr (fun i hi => by rw [← hyk, HV.out y i hi])
              obtain ⟨rc, hrc⟩ : ∃ rc, cos t k (G y) (G x) = rc := ⟨_, rfl⟩
              have hzx := HZ.out x hxl
              have hzy := HZ.out y hyl
              have hcall : ∀ dd, Calls Try.prog 30 #[.string (G y).key, .slice (if cN = yk then aN else Option.map (fun x => x.add yk) aN) k (cN - yk), .int .u64 (G y).lim, .string (G x).key, .int .i64 (t : Nat), .slice (if cN = xk then aN else Option.map (fun x => x.add xk) aN) k (cN - xk), .int .u64 (G x).lim] ((w9.drewN d).drewN dd) fun e w' => e = .returned (.tuple #[.bool false, .int .i64 rc]) ∧ ∃ n, w' = ((w9.drewN d).drewN dd).drewN n := by
                intro dd
                have h := zzcovers_any (G y).key _ k (cN - yk) (G y).at (G y).lim (G x).key t _ k (cN - xk) (G x).at (G x).lim w9.heap.size w9.heap.size ((w9.drewN d).drewN dd) (by omega) (Nat.le_refl _) (by omega) hzy.1 hzx.1 hzy.2 hzx.2 ⟨py.le, py.nil, py.cell⟩ ⟨px.le, px.nil, px.cell⟩
                have e1 : cvB (G y).key (G y).at (G y).lim (G x).key t (G x).at (G x).lim k = false := hcv
                have e2 : cvC (G y).key (G y).at (G y).lim (G x).key t (G x).at (G x).lim k = rc := hrc
                rw [e1, e2] at h
                exact h
              obtain ⟨g1, o1, rfl, _, cA⟩ := iK.cell x hxl
              obtain ⟨g2, o2, e2, _, cB⟩ := iK.cell y hyl
              cases e2
              have cC : w9.cell? ⟨gM, x, none⟩ = some (.int .u64 (G x).lim) := hrow.cell hxl
              have cD : w9.cell? ⟨gM, y, none⟩ = some (.int .u64 (G y).lim) := hrow.cell hyl
              have nK := iN.nil
              have w1 := wrap_mul hxk (by omega)
              have w2 : IntKind.i64.wrap (((x : Int) + 1) * (k : Int)) = (xk1 : Int) := wrap_mul hxk1 (by omega)
              have w3 : IntKind.i64.wrap ((x : Int) + 1) = (x : Int) + 1 := by rw [IntKind.wrap_i64]; omega
              have w4 := wrap_mul hyk (by omega)
              have w5 : IntKind.i64.wrap (((y : Int) + 1) * (k : Int)) = (yk1 : Int) := wrap_mul hyk1 (by omega)
              have w6 : IntKind.i64.wrap ((y : Int) + 1) = (y : Int) + 1 := by rw [IntKind.wrap_i64]; omega
              clear px py hxk hxk1 hyk hyk1 hcv hrc hzx hzy
              go_upto_region 72 with fail
              refine reg72 _ _ _ _ _ _ _ _ _ _ _ _ _ _ _ _ _ _ _ _ _ _ _ _ _ _ _ _ _ _ _ _ _ _ _ _ _ _ _ _ _ _ _ _ _ _ _ _ _ _ _ _ _ _ _ _ _ _ _ _ _ _ _ _ _ _ _ _ _ _ _ _ _ _ _ _ _ _ _ _ _ _ _ _ _ _ _ _ _ _ _ _ _ _ _ _ _ _ _ _ _ _ _ _ _ _ _ _ _ _ _ _ _ _ _ _ _ _ _ _ _ _ _ _ _ _ _ _ _ _ _ _ _ _ _ _ _ _ _ _ _ _ _ _ _ _ _ _ _ _ _ _ _ _ _ _ _ _ _ _ _ _ _ _ _ _ _ _ _ _ _ _ _ _ _ _ _ _ _ _ _ _ _ _ _ _ _ _ _ _ _ _ _ _ _ _ _ _ _ _ _ _ _ _ _ _ _ _ _ _ _ _ _ _ _ _ _ _ _ _ _ _ _ _ _ _ _ _ _ _ _ _ _ _ _ _ _ _ _ _ _ _ _ _ _ _ _ _ _ _ _ _ _ _ _ _ _ _ _ _ _ _ _ _ _ _ _ _ _ _ _ _ _ _ _ _ _ _ _ _ _ _ _ _ _ _ _ _ _ _ _ _ _ _ _ _ _ _ _ _ _ _ _ _ _ _ _ _ _ _ _ _ _ _ _ _ _ _ _ _ _ _ _ _ _ _ _ _ _ _ _ g1 o1 gM x y t k xk xk1 yk yk1 m mk cK cN aN (G x).key (G y).key (G x).lim (G y).lim false rc (w9.drewN d) _ _ cA cB cC cD nK hcall hxl hyl (by omega) (by omega) (by omega) (by omega) (by omega) (by omega) (by omega) w1 w2 w3 w4 w5 w6 ?_
              intro x0 x1 x2 x3 x4 x5 x6 x7 x8 x9 x10 x11 x12 x13 x14 x15 x16 x17 x18 x19 x20 x21 x22 x23 x24 x25 x26 x27 x28 x29 x30 x31 x32 x33 x34 x35 x36 x37 x38 nq
              clear hcall w1 w2 w3 w4 w5 w6
              go_wp2
              go_roundw
              case rel => exact ⟨y + 1, _, by go_num, by omega, by omega, rfl⟩
              case measure => simp [intOf]; omega
            · go_wp2
              go_roundw
              case rel => exact ⟨x + 1, d, by go_num, by omega, rfl⟩
              case measure => simp [intOf]; omega
        · go_wp2
          go_ret
          exact ⟨rfl, below_drewN HB9.out _⟩
end Go.Proofs.Qxb6600123a
