/-
  Seat b6600123a: the walk of (*failures).add: behind the pruning phase, and the whole.
-/
import Derived.Test.Qxb6600123aAddMore
import Derived.Test.Qxb6600123aReg8
import Derived.Test.Qxb6600123aReg11
import Derived.Test.Qxb6600123aReg12
import Derived.Test.Qxb6600123aReg13
import Derived.Test.Qxb6600123aReg19
import Derived.Test.Qxb6600123aReg20
import Derived.Test.Qxb6600123aReg21
namespace Go.Proofs.Qxb6600123a
open Go.RowKit Go.Deep
set_option linter.unusedVariables false
set_option linter.unusedSimpArgs false
attribute [local go_sem ↓] Go.wp_at_zero Go.wp_at_succ

theorem one_keys (L : List Sta) : ∀ u ∈ keysV L, u.oneCell' = true := by
  intro u hu
  simp only [keysV, List.mem_map] at hu
  obtain ⟨_, _, rfl⟩ := hu
  rfl
theorem one_lims (L : List Sta) : ∀ u ∈ limsV L, u.oneCell' = true := by
  intro u hu
  simp only [limsV, List.mem_map] at hu
  obtain ⟨_, _, rfl⟩ := hu
  rfl
theorem one_need (L : List Sta) : ∀ u ∈ needV L, u.oneCell' = true := by
  intro u hu
  simp only [needV, List.mem_flatMap, List.mem_map] at hu
  obtain ⟨_, _, _, _, rfl⟩ := hu
  rfl

theorem one_map (l : List Int) : ∀ u ∈ l.map (Value.int .i64), u.oneCell' = true := by
  intro u hu
  simp only [List.mem_map] at hu
  obtain ⟨_, _, rfl⟩ := hu
  rfl
theorem need_cs {k : Nat} {xs : List Value} {st : List Sta} {j i : Nat} {u : Value} (h : xs.drop (j * k) = needV (st.drop j)) (hj : j < st.length) (hu : (st[j].need.map (Value.int .i64))[i]? = some u) : xs[j * k + i]? = some u := by
  have := congrArg (fun l => l[i]?) h
  simp only [List.getElem?_drop] at this
  rw [this, List.drop_eq_getElem_cons hj]
  simp only [needV, List.flatMap_cons]
  rw [List.getElem?_append_left (List.getElem?_eq_some_iff.1 hu).1]
  exact hu
theorem PrL.start {S : Nat → Prop} {w : World} {P : Nat} {most : Int} {prune : Bool} {vK vN vM : Value} {k : Nat} {st : List Sta} (h : FA S w P most prune vK vN vM (keysV st) (needV st) (limsV st)) (hw : Wid k st) :
    PrL S w w P most prune vK vN vM k 0 st [] (keysV st) (needV st) (limsV st) :=
  ⟨h, Fr.refl _ _, len_keysV _, len_needV hw, len_limsV _, by simp [keysV], by simp [needV], by simp [limsV], by simp, by simp, by simp⟩

set_option maxRecDepth 100000 in
set_option maxHeartbeats 4000000 in
theorem add_any (S : Nat → Prop) (B0 P : Nat) (most : Int) (prune : Bool) (k t : Nat) (st : List Sta) (nw : Sta) (aK aN aM : Option Addr) (cK cN cM : Nat) (na : Option Addr) (nc : Nat) (w : World)
    (hS : ∀ b, w.heap.size ≤ b → S b) (hB : ∀ b, S b → B0 ≤ b)
    (hfa : FA S w P most prune (.slice aK st.length cK) (.slice aN (st.length * k) cN) (.slice aM st.length cM) (keysV st) (needV st) (limsV st))
    (hw : Wid k st) (hwn : nw.need.length = k) (hnd : In B0 w na k nc (fun i => .int .i64 (nw.at i)))
    (hmost : 1 ≤ most) (hm : st.length ≤ 65536) (hk : k ≤ 65536) (hmk : st.length * k ≤ 1048576) (ht : t ≤ nw.key.size) (hts : ∀ s, s ∈ st → t ≤ s.key.size ∧ s.key.size ≤ 1048576) (hks : nw.key.size ≤ 1048576) :
    Calls Try.prog 42 #[.pointer (some ⟨P, 0, none⟩), .string nw.key, .int .i64 t, .slice na k nc, .int .u64 nw.lim] w fun e w' =>
      e = .returned (.int .i64 (costS prune t k nw st)) ∧ ∃ aK' aN' aM' cK' cN' cM', FA S w' P most prune (.slice aK' (addS most prune t k st nw).length cK') (.slice aN' ((addS most prune t k st nw).length * k) cN') (.slice aM' (addS most prune t k st nw).length cM')
        (keysV (addS most prune t k st nw)) (needV (addS most prune t k st nw)) (limsV (addS most prune t k st nw)) ∧ Fr S w w' := by
  have c2 : w.cell? ⟨P, 2, none⟩ = some (.slice aM st.length cM) := hfa.pool.cell (by omega)
  have c4 : w.cell? ⟨P, 4, none⟩ = some (.bool prune) := hfa.pool.cell (by omega)
  go_enter Try.func42, Try.ntmps42
  go_upto_if 27 with fail
  go_cut [10, 12] from 17 (fun cmp kp wc => ∃ xk xn xm, cmp = .int .i64 (costS prune t k nw st) ∧ kp = .int .i64 ((keptS prune t k nw st).length : Nat) ∧ Pruned S w wc P most prune (.slice aK st.length cK) (.slice aN (st.length * k) cN) (.slice aM st.length cM) k st.length (keptS prune t k nw st) xk xn xm)
  case first =>
    cases prune with
    | false =>
      have HR : Hid (Pruned S w w P most false (.slice aK st.length cK) (.slice aN (st.length * k) cN) (.slice aM st.length cM) k st.length st (keysV st) (needV st) (limsV st)) :=
        ⟨hfa, Fr.refl _ _, len_keysV _, len_needV hw, len_limsV _, List.take_of_length_le (by rw [len_keysV]; exact Nat.le_refl _), List.take_of_length_le (by rw [len_needV hw]; exact Nat.le_refl _), List.take_of_length_le (by rw [len_limsV]; exact Nat.le_refl _)⟩
      clear hfa hnd hts
      go_wp2
      go_meet
      case rel => exact ⟨keysV st, needV st, limsV st, by rw [costS_false], by rw [keptS_false], by rw [keptS_false]; exact HR.out⟩
    | true =>
      go_wp2
      go_loopw [10, 12, 33] (fun cmp kp i wr => ∃ j xk xn xm, j ≤ st.length ∧ i = .int .i64 (j : Nat) ∧ cmp = .int .i64 (costS true t k nw (st.take j)) ∧ kp = .int .i64 ((keptS true t k nw (st.take j)).length : Nat) ∧ PrL S w wr P most true (.slice aK st.length cK) (.slice aN (st.length * k) cN) (.slice aM st.length cM) k j st (keptS true t k nw (st.take j)) xk xn xm)
        (fun cmp kp i _ => st.length - (intOf i).toNat)
      case atStart => exact ⟨0, _, _, _, Nat.zero_le _, rfl, rfl, rfl, PrL.start hfa hw⟩
      case round =>
        obtain ⟨j, xk, xn, xm, hj, rfl, rfl, rfl, hpl⟩ := hrel
        by_cases hlt : j < st.length
        · have hsn := List.take_succ_eq_append_getElem hlt
          have hLj : (keptS true t k nw (st.take j)).length ≤ j := Nat.le_trans (keptS_len ..) (by rw [List.length_take]; omega)
          have hwL : Wid k (keptS true t k nw (st.take j)) := wid_kept (wid_take hw j)
          have hC := costS_bound true t k nw (st.take j)
          rw [List.length_take, Nat.min_eq_left hj] at hC
          have hcc := cvC_bound nw.key nw.at nw.lim st[j].key t st[j].at st[j].lim k
          have hmu : (j : Int) * (2 + t + k) ≤ 65536 * (2 + t + k) := Int.mul_le_mul_of_nonneg_right (by omega) (by omega)
          have hCb : costS true t k nw (st.take j) ≤ 73015033856 := by omega
          have hC0 := hC.1
          have HKS := keptS_snoc true t k nw (st.take j) st[j]
          have HCS := costS_snoc true t k nw (st.take j) st[j]
          rw [← hsn, if_pos rfl] at HCS
          rw [← hsn, Bool.true_and] at HKS
          clear hsn hmu hC
          have hts1 := hts _ (List.getElem_mem hlt)
          obtain ⟨L, hLe⟩ : ∃ L, keptS true t k nw (st.take j) = L := ⟨_, rfl⟩
          rw [hLe] at hpl hLj hwL HKS ⊢
          clear hLe
          obtain ⟨C, hCe⟩ : ∃ C, costS true t k nw (st.take j) = C := ⟨_, rfl⟩
          rw [hCe] at hCb hC0 HCS ⊢
          clear hCe
          have oK := hpl.fa.keys
          rw [hpl.lk] at oK
          have oN := hpl.fa.need
          rw [hpl.ln] at oN
          have oM := hpl.fa.lims
          rw [hpl.lm] at oM
          obtain ⟨gK, rfl, hgK, hcK⟩ := own_addr oK (by omega)
          obtain ⟨gM, rfl, hgM, hcM⟩ := own_addr oM (by omega)
          have cell0 : wr.cell? ⟨P, 0, none⟩ = some (.slice (some ⟨gK, 0, none⟩) st.length cK) := hpl.fa.pool.cell (by omega)
          have cell1 : wr.cell? ⟨P, 1, none⟩ = some (.slice aN (st.length * k) cN) := hpl.fa.pool.cell (by omega)
          have cell2 : wr.cell? ⟨P, 2, none⟩ = some (.slice (some ⟨gM, 0, none⟩) st.length cM) := hpl.fa.pool.cell (by omega)
          have HXM : Hid (xm[j]? = some (.int .u64 st[j].lim)) := lim_at hpl.dm hlt
          have cellk := (hcK j hlt).trans (key_at hpl.dk hlt)
          have cellm := (hcM j hlt).trans (lim_at hpl.dm hlt)
          obtain ⟨jk, hjk⟩ : ∃ jk, j * k = jk := ⟨_, rfl⟩
          obtain ⟨jk1, hjk1⟩ : ∃ jk1, (j + 1) * k = jk1 := ⟨_, rfl⟩
          have hjl : jk1 ≤ st.length * k := by rw [← hjk1]; exact Nat.mul_le_mul_right k hlt
          have hjs : jk1 = jk + k := by rw [← hjk1, ← hjk, Nat.add_mul, Nat.one_mul]
          have hja : jk1 ≤ jk + k := Nat.le_of_eq hjs
          have hjb : jk + k ≤ jk1 := Nat.le_of_eq hjs.symm
          have wr1 := wrap_mul hjk (by omega)
          have HCJ : Hid (∀ c, c ≤ j → c * k ≤ jk) := fun c hc => by rw [← hjk]; exact Nat.mul_le_mul_right k hc
          have wr2 : IntKind.i64.wrap (((j : Int) + 1) * (k : Int)) = (jk1 : Int) := wrap_mul hjk1 (by omega)
          have wr3 : IntKind.i64.wrap ((j : Int) + 1) = (j : Int) + 1 := by rw [IntKind.wrap_i64]; omega
          obtain ⟨rb, hrb⟩ : ∃ rb, cov t k nw st[j] = rb := ⟨_, rfl⟩
          have hcall : ∀ d, Calls Try.prog 41 #[.string nw.key, .slice na k nc, .int .u64 nw.lim, .string st[j].key, .int .i64 (t : Nat), .slice (if cN = jk then aN else Option.map (fun x => x.add jk) aN) k (cN - jk), .int .u64 st[j].lim] (wr.drewN d) fun e w' => e = .returned (.tuple #[.bool rb, .int .i64 (cos t k nw st[j])]) ∧ ∃ n, w' = (wr.drewN d).drewN n := by
            intro d
            rw [← hrb]
            exact covers_any nw.key na k nc nw.at nw.lim st[j].key t _ k _ st[j].at st[j].lim B0 _ (wr.drewN d) (by omega) (Nat.le_refl k) (by omega) ht hts1.1 hks hts1.2 (hnd.later ((hpl.fr.drewN d).below hB))
              (sub_in (own_heap oN rfl) (by omega) (fun i hi => by rw [← hjk]; exact need_at hw hpl.dn hlt hi))
          have hcc2 : 0 ≤ cos t k nw st[j] ∧ cos t k nw st[j] ≤ 2 + t + k := hcc
          have hln : (st[j].need.map (Value.int .i64)).length = k := by rw [List.length_map]; exact hw _ (List.getElem_mem hlt)
          have HNC : Hid (∀ i u, (st[j].need.map (Value.int .i64))[i]? = some u → xn[jk + i]? = some u) := fun i u hu => by
            rw [← hjk]; exact need_cs hpl.dn hlt hu
          have HPK : Hid (∀ w', FA S w' P most true (.slice (some ⟨gK, 0, none⟩) st.length cK) (.slice aN (st.length * k) cN) (.slice (some ⟨gM, 0, none⟩) st.length cM) (splice xk L.length [.string st[j].key]) (splice xn (L.length * k) (st[j].need.map (Value.int .i64))) (splice xm L.length [.int .u64 st[j].lim]) → Fr S w w' →
              PrL S w w' P most true (.slice (some ⟨gK, 0, none⟩) st.length cK) (.slice aN (st.length * k) cN) (.slice (some ⟨gM, 0, none⟩) st.length cM) k (j + 1) st (L ++ [st[j]]) (splice xk L.length [.string st[j].key]) (splice xn (L.length * k) (st[j].need.map (Value.int .i64))) (splice xm L.length [.int .u64 st[j].lim])) :=
            fun w' h1 h2 => hpl.keep hw hwL hlt hLj h1 h2
          have HPS : Hid (∀ w', w'.heap = wr.heap → Fr S w w' → PrL S w w' P most true (.slice (some ⟨gK, 0, none⟩) st.length cK) (.slice aN (st.length * k) cN) (.slice (some ⟨gM, 0, none⟩) st.length cM) k (j + 1) st L xk xn xm) :=
            fun w' h1 h2 => hpl.skip hw hlt h1 h2
          obtain ⟨s, hs⟩ : ∃ s, st[j] = s := ⟨_, rfl⟩
          rw [hs] at HKS HCS hts1 cellk cellm hrb hcall hcc2 hln HNC HPK HXM
          clear hcc hs hjs
          obtain ⟨cc, hce⟩ : ∃ cc, cos t k nw s = cc := ⟨_, rfl⟩
          rw [hce] at HCS hcall hcc2
          clear hce
          rw [hrb] at HKS
          clear hrb
          have HKS2 : Hid _ := HKS
          have HCS2 : Hid _ := HCS
          have f1 := hpl.fa
          have r1 := hpl.fr
          have hlk := hpl.lk
          have hlm := hpl.lm
          have hxn := hpl.ln
          clear HKS HCS hpl hfa hnd hts hw hwL hjk1 hjk
          go_upto_region 8 with fail
          refine reg8 _ _ _ _ _ _ _ _ _ _ _ _ _ _ _ _ _ _ _ _ _ _ _ _ _ _ _ _ _ _ _ _ _ _ _ _ _ _ _ _ _ _ _ _ _ _ _ _ _ _ _ _ _ _ _ _ _ _ _ _ _ _ _ _ _ _ _ _ _ _ _ _ _ _ _ _ _ _ _ _ _ _ _ _ _ _ _ _ _ _ _ _ _ _ _ _ _ _ _ _ _ _ _ _ _ _ _ _ _ _ _ _ _ _ _ _ _ _ _ _ _ _ _ _ _ _ _ _ _ _ _ _ _ _ _ _ _ _ _ _ _ _ _ _ _ _ _ _ _ _ _ _ _ _ _ _ _ _ _ _ _ _ _ _ _ _ _ _ _ _ _ _ _ _ _ _ _ _ _ _ _ _ _ _ _ _ _ _ _ _ _ _ _ _ _ _ P gK gM j t k jk jk1 st.length (st.length * k) cK cN cM nc aN na nw.key s.key nw.lim s.lim xn rb cc wr _ _ cell0 cell1 cell2 cellk cellm oN hcall hlt hja hjb hjl hmk (by omega) wr1 wr2 wr3 ?_
          intro v8x0 v8x1 v8x2 v8x3 v8x4 v8x5 v8x6 v8x7 v8x8 v8x9 v8x10 v8x11 v8x12 v8x13 v8x14 v8x15 v8x16 v8x17 v8x18 v8x19 v8x20 v8x21 v8x22 v8x23 v8x24 v8x25 v8x26 v8x27 v8x28 v8x29 v8x30 v8x31 v8x32 v8x33 n
          have f8 : FA S (wr.drewN n) P most true (.slice (some ⟨gK, 0, none⟩) st.length cK) (.slice aN (st.length * k) cN) (.slice (some ⟨gM, 0, none⟩) st.length cM) xk xn xm := f1.heap rfl
          have r8 := r1.drewN n
          have HPS2 := HPS.out (wr.drewN n) rfl r8
          have oK8 := own_heap (w' := wr.drewN n) oK rfl
          have cellk8 : (wr.drewN n).cell? ⟨gK, j, none⟩ = some (.string s.key) := cellk
          have cell08 : (wr.drewN n).cell? ⟨P, 0, none⟩ = some (.slice (some ⟨gK, 0, none⟩) st.length cK) := cell0
          obtain ⟨w8, hw8⟩ : ∃ w8, w8 = wr.drewN n := ⟨_, rfl⟩
          rw [← hw8] at f8 r8 HPS2 oK8 cellk8 cell08 ⊢
          clear hw8 HPS f1 r1 oK oN oM cell0 cell1 cell2 cellk cellm hcall hcK hcM hgK hgM
          cases rb with
          | true =>
            have HP3 : Hid _ := HPS2
            clear HPS2 f8 r8 oK8 cellk8 cell08
            go_wp2
            go_roundw
            case rel => exact ⟨j + 1, xk, xn, xm, by omega, by go_num, by rw [HCS2.out], by rw [HKS2.out]; rfl, by rw [HKS2.out]; exact HP3.out⟩
            case measure => simp [intOf]; omega
          | false =>
            clear HPS2
            obtain ⟨c, hc⟩ : ∃ c, L.length = c := ⟨_, rfl⟩
            have HCE : Hid (L.length = c) := hc
            rw [hc] at hLj HPK ⊢
            clear hc
            obtain ⟨ck, hck⟩ : ∃ ck, c * k = ck := ⟨_, rfl⟩
            rw [hck] at HPK
            have hckj : ck ≤ jk := by rw [← hck]; exact HCJ.out c hLj
            have wr4 := wrap_mul hck (by omega)
            clear hck
            have hcm : c < st.length := by omega
            obtain ⟨old, hold⟩ : ∃ old, xk[c]? = some old := ⟨_, List.getElem?_eq_getElem (by omega)⟩
            obtain ⟨old2, hold2⟩ : ∃ old2, xm[c]? = some old2 := ⟨_, List.getElem?_eq_getElem (by omega)⟩
            have cellc : w8.cell? ⟨gK, c, none⟩ = some old := (oK8.cellAt c (by omega)).trans hold
            have froc : w8.frozen? ⟨gK, c, none⟩ = false := oK8.frozenAt c
            go_upto_region 11 with fail
            refine reg11 _ _ _ _ _ _ _ _ _ _ _ _ _ _ _ _ _ _ _ _ _ _ _ _ _ _ _ _ _ _ _ _ _ _ _ _ _ _ _ _ _ _ _ _ _ _ _ _ _ _ _ _ _ _ _ _ _ _ _ _ _ _ _ _ _ _ _ _ _ _ _ _ _ _ _ _ _ _ _ _ _ _ _ _ _ _ _ _ _ _ _ _ _ _ _ _ _ _ _ _ _ _ _ _ _ _ _ _ _ _ _ _ _ _ _ _ _ _ _ _ _ _ _ _ _ _ _ _ _ _ _ _ _ _ _ _ _ _ _ _ _ _ _ _ _ _ _ _ _ _ _ _ _ _ _ _ _ _ _ _ _ _ _ _ _ _ _ _ _ _ _ _ _ _ _ _ _ _ _ _ _ _ _ _ _ _ _ _ _ _ _ _ _ _ _ _ _ _ _ _ P gK c j st.length cK s.key old w8 _ _ cell08 cellk8 cellc froc hcm hlt ?_
            intro v11x0 v11x1 v11x2 v11x3 v11x4 v11x5 v11x6 v11x7 v11x8 v11x9 v11x10 v11x11 v11x12
            have st1 := oK8.stored c (.string s.key)
            rw [set_splice _ _ _ (by omega)] at st1
            have f11 : FA S ((w8.setCell ⟨gK, c, none⟩ (.string s.key)).drew) P most true (.slice (some ⟨gK, 0, none⟩) st.length cK) (.slice aN (st.length * k) cN) (.slice (some ⟨gM, 0, none⟩) st.length cM) (splice xk c [.string s.key]) xn xm :=
              (f8.keysTo st1.2 st1.1 (st1.1.1.trans (Nat.mul_one _))).heap rfl
            have r11 := (r8.setCell (p := ⟨gK, c, none⟩) (f8.sK gK rfl) (.string s.key)).drew
            obtain ⟨w11, hw11⟩ : ∃ w11, w11 = (w8.setCell ⟨gK, c, none⟩ (.string s.key)).drew := ⟨_, rfl⟩
            rw [← hw11] at f11 r11 ⊢
            clear hw11 st1 f8 r8 oK8 cellk8 cell08 cellc froc hold
            have oN := f11.need
            rw [hxn] at oN
            have pN := row_ne f11.pool f11.need (by decide)
            have cell1 : w11.cell? ⟨P, 1, none⟩ = some (.slice aN (st.length * k) cN) := f11.pool.cell (by omega)
            have hS11 : ∀ b, w11.heap.size ≤ b → S b := fun b hb => hS b (Nat.le_trans r11.size hb)
            go_upto_region 12 with fail
            refine reg12 _ _ _ _ _ _ _ _ _ _ _ _ _ _ _ _ _ _ _ _ _ _ _ _ _ _ _ _ _ _ _ _ _ _ _ _ _ _ _ _ _ _ _ _ _ _ _ _ _ _ _ _ _ _ _ _ _ _ _ _ _ _ _ _ _ _ _ _ _ _ _ _ _ _ _ _ _ _ _ _ _ _ _ _ _ _ _ _ _ _ _ _ _ _ _ _ _ _ _ _ _ _ _ _ _ _ _ _ _ _ _ _ _ _ _ _ _ _ _ _ _ _ _ _ _ _ _ _ _ _ _ _ _ _ _ _ _ _ _ _ _ _ _ _ _ _ _ _ _ _ _ _ _ _ _ _ _ _ _ _ _ _ _ _ _ _ _ _ _ _ _ _ _ _ _ _ _ _ _ _ _ _ _ _ _ _ _ _ _ _ _ _ _ _ _ _ _ _ _ P c j k ck jk jk1 (st.length * k) cN aN xn (s.need.map (Value.int .i64)) w11 _ _ oN pN cell1 (one_map s.need) HNC.out hln hja hjb hckj hjl hmk (by omega) wr4 wr1 wr2 wr3 ?_
            intro v12x0 v12x1 v12x2 v12x3 v12x4 v12x5 v12x6 v12x7 v12x8 v12x9 v12x10 v12x11 v12x12 v12x13 v12x14 v12x15 v12x16 v12x17 v12x18 v12x19 v12x20 w12 owa hga
            have f12 := f11.needTo hga owa (owa.1.trans (Nat.mul_one _))
            have r12 := r11.grown hga f11.sN hS11
            clear owa hga f11 r11 hS11 oN pN cell1
            have oM := f12.lims
            rw [hlm] at oM
            have cell2 : w12.cell? ⟨P, 2, none⟩ = some (.slice (some ⟨gM, 0, none⟩) st.length cM) := f12.pool.cell (by omega)
            have cellm : w12.cell? ⟨gM, j, none⟩ = some (.int .u64 s.lim) := (oM.cellAt j (by omega)).trans HXM.out
            have cellc : w12.cell? ⟨gM, c, none⟩ = some old2 := (oM.cellAt c (by omega)).trans hold2
            have froc : w12.frozen? ⟨gM, c, none⟩ = false := oM.frozenAt c
            go_upto_region 13 with fail
            refine reg13 _ _ _ _ _ _ _ _ _ _ _ _ _ _ _ _ _ _ _ _ _ _ _ _ _ _ _ _ _ _ _ _ _ _ _ _ _ _ _ _ _ _ _ _ _ _ _ _ _ _ _ _ _ _ _ _ _ _ _ _ _ _ _ _ _ _ _ _ _ _ _ _ _ _ _ _ _ _ _ _ _ _ _ _ _ _ _ _ _ _ _ _ _ _ _ _ _ _ _ _ _ _ _ _ _ _ _ _ _ _ _ _ _ _ _ _ _ _ _ _ _ _ _ _ _ _ _ _ _ _ _ _ _ _ _ _ _ _ _ _ _ _ _ _ _ _ _ _ _ _ _ _ _ _ _ _ _ _ _ _ _ _ _ _ _ _ _ _ _ _ _ _ _ _ _ _ _ _ _ _ _ _ _ _ _ _ _ _ _ _ _ _ _ _ _ _ _ _ _ _ P gM c j st.length cM s.lim old2 w12 _ _ cell2 cellm cellc froc hcm hlt ?_
            intro v13x0 v13x1 v13x2 v13x3 v13x4 v13x5 v13x6 v13x7 v13x8 v13x9 v13x10 v13x11 v13x12
            have st1 := oM.stored c (.int .u64 s.lim)
            rw [set_splice _ _ _ (by omega)] at st1
            have f13 : FA S ((w12.setCell ⟨gM, c, none⟩ (.int .u64 s.lim)).drew) P most true (.slice (some ⟨gK, 0, none⟩) st.length cK) (.slice aN (st.length * k) cN) (.slice (some ⟨gM, 0, none⟩) st.length cM) (splice xk c [.string s.key]) (splice xn ck (s.need.map (Value.int .i64))) (splice xm c [.int .u64 s.lim]) :=
              (f12.limsTo st1.2 st1.1 (st1.1.1.trans (Nat.mul_one _))).heap rfl
            have r13 := (r12.setCell (p := ⟨gM, c, none⟩) (f12.sM gM rfl) (.int .u64 s.lim)).drew
            have HP3 := HPK.out _ f13 r13
            obtain ⟨w13, hw13⟩ : ∃ w13, w13 = (w12.setCell ⟨gM, c, none⟩ (.int .u64 s.lim)).drew := ⟨_, rfl⟩
            rw [← hw13] at HP3 ⊢
            have HP4 : Hid _ := HP3
            clear hw13 st1 f12 r12 f13 r13 oM cellm cellc froc cell2 hold2 HP3 HPK wr1 wr2 wr4
            go_wp2
            go_roundw
            case rel => exact ⟨j + 1, _, _, _, by omega, by go_num, by rw [HCS2.out], by rw [HKS2.out, if_neg (by decide), List.length_append, HCE.out]; rfl, by rw [HKS2.out, if_neg (by decide)]; exact HP4.out⟩
            case measure => simp [intOf]; omega
        · obtain rfl : j = st.length := by omega
          have HP := hpl.done
          rw [List.take_length] at HP ⊢
          have HP2 : Hid _ := HP
          clear hpl HP hfa hnd hts
          go_wp2
          go_meet
          case rel => exact ⟨xk, xn, xm, rfl, rfl, HP2.out⟩
  case rest =>
    obtain ⟨xk, xn, xm, rfl, rfl, hpr⟩ := hcut
    clear c2 c4
    have hcl := keptS_len prune t k nw st
    have hwL : Wid k (keptS prune t k nw st) := wid_kept hw
    have c3 : wc.cell? ⟨P, 3, none⟩ = some (.int .i64 most) := hpr.fa.pool.cell (by omega)
    have HA : Hid (addS most prune t k st nw = (keptS prune t k nw st).drop (fromS most (keptS prune t k nw st)) ++ [nw]) := rfl
    obtain ⟨L, hL⟩ : ∃ L, L = keptS prune t k nw st := ⟨_, rfl⟩
    rw [← hL] at hpr hcl hwL HA ⊢
    clear hL
    obtain ⟨c, hc⟩ : ∃ c, c = L.length := ⟨_, rfl⟩
    rw [← hc] at hcl ⊢
    have HC : Hid (c = L.length) := hc
    clear hc
    go_upto_if 129 with fail
    go_cut [16] from 17 (fun fr w2 => fr = .int .i64 (fromS most L : Nat) ∧ w2 = wc)
    case first =>
      by_cases hd : ((c : Int) = most)
      · have hb : ((c : Int) == most) = true := by simpa using hd
        have HE : Hid (fromS most L = 1) := by show fromS most L = 1; unfold fromS; rw [← HC.out, if_pos hd]
        clear hd
        go_wp2
        go_meet
        case rel => exact ⟨by rw [HE.out]; rfl, rfl⟩
      · have hb : ((c : Int) == most) = false := by simpa using hd
        have HE : Hid (fromS most L = 0) := by show fromS most L = 0; unfold fromS; rw [← HC.out, if_neg hd]
        clear hd
        go_wp2
        go_meet
        case rel => exact ⟨by rw [HE.out]; rfl, rfl⟩
    case rest =>
      obtain ⟨rfl, rfl⟩ := hcut
      have hq1 : fromS most L ≤ 1 ∧ fromS most L ≤ c := by
        unfold fromS
        rw [← HC.out]
        split <;> omega
      obtain ⟨q, hq⟩ : ∃ q, q = fromS most L := ⟨_, rfl⟩
      rw [← hq] at hq1 HA ⊢
      clear hq c3
      obtain ⟨hq2, hqc⟩ := hq1
      obtain ⟨d, hd⟩ : ∃ d, c - q = d := ⟨_, rfl⟩
      have HLn : Hid ((L.drop q ++ [nw]).length = d + 1) := by show (L.drop q ++ [nw]).length = d + 1; rw [List.length_append, List.length_drop, ← HC.out, hd]; rfl
      obtain ⟨A, hA⟩ : ∃ A, addS most prune t k st nw = A := ⟨_, rfl⟩
      rw [hA] at HA
      have HAE : Hid (addS most prune t k st nw = A) := hA
      clear hA
      have hAe := HA.out
      obtain ⟨m, hmm⟩ : ∃ m, m = st.length := ⟨_, rfl⟩
      rw [← hmm] at hpr hcl hm hmk
      clear hmm
      obtain ⟨mk, hmk2⟩ : ∃ mk, mk = m * k := ⟨_, rfl⟩
      rw [← hmk2] at hmk
      obtain ⟨hfa2, hfr2, lk, ln, lm, tk, tn, tm⟩ := hpr
      rw [← hmk2] at hfa2 ln
      rw [← HC.out] at tk tn tm
      obtain ⟨ck, hck⟩ : ∃ ck, c * k = ck := ⟨_, rfl⟩
      obtain ⟨qk, hqk⟩ : ∃ qk, q * k = qk := ⟨_, rfl⟩
      obtain ⟨dk, hdk⟩ : ∃ dk, d * k = dk := ⟨_, rfl⟩
      have hcq : ck - qk = dk := by rw [← hck, ← hqk, ← hdk, ← hd, Nat.sub_mul]
      have hqck : qk ≤ ck := by rw [← hck, ← hqk]; exact Nat.mul_le_mul_right k hqc
      have hckm : ck ≤ mk := by rw [← hck, hmk2]; exact Nat.mul_le_mul_right k hcl
      have w1 := wrap_mul hqk (by omega)
      have w2 := wrap_mul hck (by omega)
      have hneed : needV A = (needV L).drop qk ++ nw.need.map (Value.int .i64) := by
        rw [hAe, needV_app, needV_drop hwL q (by rw [← HC.out]; exact hqc), hqk]
        simp [needV]
      have hkeys : keysV A = (keysV L).drop q ++ [.string nw.key] := by
        rw [hAe, keysV_app, keysV_drop]; rfl
      have hlims : limsV A = (limsV L).drop q ++ [.int .u64 nw.lim] := by
        rw [hAe, limsV_app, limsV_drop]; rfl
      have hAl : A.length = d + 1 := by rw [hAe]; exact HLn.out
      have hAk : A.length * k = dk + k := by rw [hAl, Nat.add_mul, hdk, Nat.one_mul]
      have hnl : (needV A).length = dk + k := by
        rw [hneed, List.length_append, List.length_drop, len_needV hwL, ← HC.out, hck, hcq, List.length_map, hwn]
      rw [hck] at tn
      have hlL : (needV L).length = ck := by rw [len_needV hwL, ← HC.out, hck]
      have HF : Hid (∀ aK' aN' aM' cK' cN' cM' w3, FA S w3 P most prune (.slice aK' (d + 1) cK') (.slice aN' (dk + k) cN') (.slice aM' (d + 1) cM') (keysV A) (needV A) (limsV A) → Fr S w w3 →
          ∃ aK' aN' aM' cK' cN' cM', FA S w3 P most prune (.slice aK' A.length cK') (.slice aN' (A.length * k) cN') (.slice aM' A.length cM') (keysV A) (needV A) (limsV A) ∧ Fr S w w3) := by
        intro a1 a2 a3 b1 b2 b3 w3 h1 h2
        rw [hAk, hAl]
        exact ⟨a1, a2, a3, b1, b2, b3, h1, h2⟩
      have HH : Hid (needV A = (needV L).drop qk ++ nw.need.map (Value.int .i64) ∧ keysV A = (keysV L).drop q ++ [.string nw.key] ∧ limsV A = (limsV L).drop q ++ [.int .u64 nw.lim] ∧ (needV A).length = dk + k ∧ A.length = d + 1) := ⟨hneed, hkeys, hlims, hnl, hAl⟩
      have HN : Hid (In B0 w na k nc (fun i => .int .i64 (nw.need.getD i 0))) := hnd
      have HTS : Hid (Wid k st) := hw
      have HKL : Hid ((keysV L).length = c ∧ (limsV L).length = c ∧ (needV L).length = ck) := ⟨by rw [len_keysV, HC.out], by rw [len_limsV, HC.out], hlL⟩
      clear hneed hkeys hlims hnl hAl hAk hAe hnd hw hts hfa hmk2 hck hqk hdk hlL HA HLn HC hwL ht hks hmost
      obtain ⟨FX, hFX⟩ : ∃ FX : Hid _, True := ⟨HF, trivial⟩
      clear HF hFX
      have oK := hfa2.keys
      rw [lk] at oK
      have pK := row_ne hfa2.pool hfa2.keys (by decide)
      have hPl := hfa2.pool.lt
      have cell0 : wc.cell? ⟨P, 0, none⟩ = some (.slice aK m cK) := hfa2.pool.cell (by omega)
      have fro0 : wc.frozen? ⟨P, 0, none⟩ = false := hfa2.pool.frozen 0
      have hSc : ∀ b, wc.heap.size ≤ b → S b := fun b hb => hS b (Nat.le_trans hfr2.size hb)
      go_upto_region 19 with fail
      refine reg19 _ _ _ _ _ _ _ _ _ _ _ _ _ _ _ _ _ _ _ _ _ _ _ _ _ _ _ _ _ _ _ _ _ _ _ _ _ _ _ _ _ _ _ _ _ _ _ _ _ _ _ _ _ _ _ _ _ _ _ _ _ _ _ _ _ _ _ _ _ _ _ _ _ _ _ _ _ _ _ _ _ _ _ _ _ _ _ _ _ _ _ _ _ _ _ _ _ _ _ _ _ _ _ _ _ _ _ _ _ _ _ _ _ _ _ _ _ _ _ _ _ _ _ _ _ _ _ _ _ _ _ _ _ _ _ _ _ _ _ _ _ _ _ _ _ _ _ _ _ _ _ _ _ _ _ _ _ _ _ _ _ _ _ _ _ _ _ _ _ _ _ _ _ _ _ _ _ _ _ _ _ _ _ _ _ _ _ _ _ _ _ _ _ _ _ _ _ _ _ S P c q d m cK aK nw.key xk (keysV L) wc _ _ oK pK hPl cell0 fro0 hfa2.sK hSc tk HKL.out.1.symm (one_keys L) hqc hcl hm hd ?_
      intro v19x0 v19x1 v19x2 v19x3 v19x4 v19x5 v19x6 v19x7 v19x8 v19x9 v19x10 v19x11 v19x12 v19x13 v19x14 v19x15 v19x16 v19x17 v19x18 v19x19 v19x20 v19x21 v19x22 ao2 c2 wb owb hgb hsb
      have f3 := hfa2.putKeys hgb owb (owb.1.trans (Nat.mul_one _)) hsb
      rw [← HH.out.2.1] at f3
      have r3 := (hfr2.grown hgb hfa2.sK hSc).setCell (p := ⟨P, 0, none⟩) hfa2.sP (.slice ao2 (d + 1) c2)
      obtain ⟨w3, hw3⟩ : ∃ w3, w3 = wb.setCell ⟨P, 0, none⟩ (.slice ao2 (d + 1) c2) := ⟨_, rfl⟩
      rw [← hw3] at f3 r3 ⊢
      clear hw3 owb hgb hsb hfa2 hfr2 hSc oK pK hPl cell0 fro0 lk tk
      have oN := f3.need
      rw [ln] at oN
      have pN := row_ne f3.pool f3.need (by decide)
      have hPl := f3.pool.lt
      have cell1 : w3.cell? ⟨P, 1, none⟩ = some (.slice aN mk cN) := f3.pool.cell (by omega)
      have fro1 : w3.frozen? ⟨P, 1, none⟩ = false := f3.pool.frozen 1
      have hSc : ∀ b, w3.heap.size ≤ b → S b := fun b hb => hS b (Nat.le_trans r3.size hb)
      go_upto_region 20 with fail
      refine reg20 _ _ _ _ _ _ _ _ _ _ _ _ _ _ _ _ _ _ _ _ _ _ _ _ _ _ _ _ _ _ _ _ _ _ _ _ _ _ _ _ _ _ _ _ _ _ _ _ _ _ _ _ _ _ _ _ _ _ _ _ _ _ _ _ _ _ _ _ _ _ _ _ _ _ _ _ _ _ _ _ _ _ _ _ _ _ _ _ _ _ _ _ _ _ _ _ _ _ _ _ _ _ _ _ _ _ _ _ _ _ _ _ _ _ _ _ _ _ _ _ _ _ _ _ _ _ _ _ _ _ _ _ _ _ _ _ _ _ _ _ _ _ _ _ _ _ _ _ _ _ _ _ _ _ _ _ _ _ _ _ _ _ _ _ _ _ _ _ _ _ _ _ _ _ _ _ _ _ _ _ _ _ _ _ _ _ _ _ _ _ _ _ _ _ _ _ _ _ S B0 P c q k ck qk dk mk cN nc aN na nw.need xn (needV L) w3 _ _ oN pN hPl cell1 fro1 f3.sN hSc hB (HN.out.later (r3.below hB)) hwn tn HKL.out.2.2.symm (one_need L) hqck hckm hmk hk hcq w1 w2 ?_
      intro v20x0 v20x1 v20x2 v20x3 v20x4 v20x5 v20x6 v20x7 v20x8 v20x9 v20x10 v20x11 v20x12 v20x13 v20x14 v20x15 v20x16 v20x17 v20x18 v20x19 v20x20 v20x21 v20x22 v20x23 v20x24 v20x25 ao3 c3 wb owb hgb hsb
      have f4 := f3.putNeed hgb owb (owb.1.trans (Nat.mul_one _)) hsb
      rw [← HH.out.1] at f4
      have r4 := (r3.grown hgb f3.sN hSc).setCell (p := ⟨P, 1, none⟩) f3.sP (.slice ao3 (dk + k) c3)
      obtain ⟨w4, hw4⟩ : ∃ w4, w4 = wb.setCell ⟨P, 1, none⟩ (.slice ao3 (dk + k) c3) := ⟨_, rfl⟩
      rw [← hw4] at f4 r4 ⊢
      clear hw4 owb hgb hsb f3 r3 hSc oN pN hPl cell1 fro1 tn w1 w2 HN
      have oM := f4.lims
      rw [lm] at oM
      have pM := row_ne f4.pool f4.lims (by decide)
      have hPl := f4.pool.lt
      have cell2 : w4.cell? ⟨P, 2, none⟩ = some (.slice aM m cM) := f4.pool.cell (by omega)
      have fro2 : w4.frozen? ⟨P, 2, none⟩ = false := f4.pool.frozen 2
      have hSc : ∀ b, w4.heap.size ≤ b → S b := fun b hb => hS b (Nat.le_trans r4.size hb)
      go_upto_region 21 with fail
      refine reg21 _ _ _ _ _ _ _ _ _ _ _ _ _ _ _ _ _ _ _ _ _ _ _ _ _ _ _ _ _ _ _ _ _ _ _ _ _ _ _ _ _ _ _ _ _ _ _ _ _ _ _ _ _ _ _ _ _ _ _ _ _ _ _ _ _ _ _ _ _ _ _ _ _ _ _ _ _ _ _ _ _ _ _ _ _ _ _ _ _ _ _ _ _ _ _ _ _ _ _ _ _ _ _ _ _ _ _ _ _ _ _ _ _ _ _ _ _ _ _ _ _ _ _ _ _ _ _ _ _ _ _ _ _ _ _ _ _ _ _ _ _ _ _ _ _ _ _ _ _ _ _ _ _ _ _ _ _ _ _ _ _ _ _ _ _ _ _ _ _ _ _ _ _ _ _ _ _ _ _ _ _ _ _ _ _ _ _ _ _ _ _ _ _ _ _ _ _ _ _ S P c q d m cM aM nw.lim xm (limsV L) w4 _ _ oM pM hPl cell2 fro2 f4.sM hSc tm HKL.out.2.1.symm (one_lims L) hqc hcl hm hd ?_
      intro v21x0 v21x1 v21x2 v21x3 v21x4 v21x5 v21x6 v21x7 v21x8 v21x9 v21x10 v21x11 v21x12 v21x13 v21x14 v21x15 v21x16 v21x17 v21x18 v21x19 v21x20 v21x21 v21x22 ao4 c4 wb owb hgb hsb
      have f5 := f4.putLims hgb owb (owb.1.trans (Nat.mul_one _)) hsb
      rw [← HH.out.2.2.1] at f5
      have r5 := (r4.grown hgb f4.sM hSc).setCell (p := ⟨P, 2, none⟩) f4.sP (.slice ao4 (d + 1) c4)
      obtain ⟨w5, hw5⟩ : ∃ w5, w5 = wb.setCell ⟨P, 2, none⟩ (.slice ao4 (d + 1) c4) := ⟨_, rfl⟩
      rw [← hw5] at f5 r5 ⊢
      clear hw5 owb hgb hsb f4 r4 hSc oM pM hPl cell2 fro2 tm
      have HR := FX.out ao2 ao3 ao4 c2 c3 c4 w5 f5 r5
      have HRH : Hid _ := HR
      clear f5 r5 HR
      go_wp2
      go_ret
      refine ⟨rfl, ?_⟩
      rw [HAE.out]
      exact HRH.out

end Go.Proofs.Qxb6600123a
