/-
  Seat b6600123a: a region that draws its order, in which every operation but ONE (number T, which waits for all that is taken first) keeps a condition S on the world: a law after the kit's own on held regions, which asks S behind every operation: 'f.keys = append(f.keys[:copy(f.keys, f.keys[from:kept])], key)' reads the field three times and writes it last.
-/
import Derived.Deep.RegionHeld
namespace Go.Proofs.Qxb6600123a
open Go

section
variable {P : Program} {md : Region.Mode} {ops : Array Oper} {Q : Exit → Act → World → Prop} {S : World → Prop} {T : Nat}

/-- Whatever order is picked; S behind every operation but number T. -/
def anyT (P : Program) (md : Region.Mode) (ops : Array Oper) (Q : Exit → Act → World → Prop) (S : World → Prop) (T : Nat) : Nat → Array Bool → Act → World → Prop
  | 0, listed, a, w => Region.ready md ops listed = [] ∧ Q .normal a w
  | fuel + 1, listed, a, w =>
    (Region.ready md ops listed = [] → Q .normal a w) ∧
    ∀ i, i ∈ Region.ready md ops listed → wpOp P ops Q i (fun a' w' => (i ≠ T → S w') ∧ anyT P md ops Q S T fuel (listed.setIfInBounds i true) a' w') a w

theorem anyT_any : ∀ (fuel : Nat) (listed : Array Bool) (a : Act) (w : World), anyT P md ops Q S T fuel listed a w → wpAny P md ops Q fuel listed a w := by
  intro fuel
  induction fuel with
  | zero => intro listed a w h; exact h
  | succ fuel ih => intro listed a w h; exact ⟨h.1, fun i hi => wpOp_mono (fun a' w' k => ih _ a' w' k.2) (h.2 i hi)⟩

theorem anyT_start {id : Nat} {a : Act} {w : World} (hm : P.follows .mixedOrders = true) (h : anyT P .any ops Q S T ops.size (Array.replicate ops.size false) a w.drew) : (Code.region id ops true).wp P Q a w :=
  wp_region_any hm (anyT_any _ _ _ _ h)

theorem anyT_done {listed : Array Bool} {a : Act} {w : World} (hr : Region.ready md ops listed = []) (h : Q .normal a w) (fuel : Nat) : anyT P md ops Q S T fuel listed a w := by
  cases fuel with
  | zero => exact ⟨hr, h⟩
  | succ n => exact ⟨fun _ => h, fun i hi => by rw [hr] at hi; cases hi⟩

/-- Number i is taken first: it yields v in every world that meets S; who could come ahead of it is apart from it and keeps S; number T waits for it. -/
theorem anyT_first {i : Nat} {oi : Oper} {v : Value} (hi : ops[i]? = some oi) (hsel : Region.noSelect ops = true)
    (hT : ∀ o, ops[T]? = some o → ∃ e ∈ o.after, Region.binds md e = true ∧ e.on = i) (hQ : ∀ c a w, Q (.panic c) (a.put oi.dst v) w → Q (.panic c) a w) (fuel : Nat) :
    ∀ (listed : Array Bool) (a : Act) (w : World),
      (∀ j oj, ops[j]? = some oj → j ≠ i → listed.getD j true = false → (∀ e ∈ oj.after, Region.binds md e = true → e.on ≠ i) → oi.apart ops oj = true) →
      i ∈ Region.ready md ops listed → YieldsIf P ops S oi v a → S w →
      anyT P md ops Q S T fuel (listed.setIfInBounds i true) (a.put oi.dst v) w → anyT P md ops Q S T (fuel + 1) listed a w := by
  have spec := Region.noSelect_spec hsel
  induction fuel with
  | zero =>
    intro listed a w _ hr hy hS H
    constructor
    · intro h0
      rw [h0] at hr
      cases hr
    · intro j hj
      by_cases hji : j = i
      · rw [hji]
        exact hy.wpOp hi hS ⟨fun _ => hS, H⟩
      · have hm := ready_mono hj hji
        rw [H.1] at hm
        cases hm
  | succ fuel ih =>
    intro listed a w hfree hr hy hS H
    constructor
    · intro h0
      rw [h0] at hr
      cases hr
    · intro j hj
      by_cases hji : j = i
      · rw [hji]
        exact hy.wpOp hi hS ⟨fun _ => hS, H⟩
      · obtain ⟨hun, oj, hoj, hall⟩ := mem_ready.1 hj
        -- j does not wait for i: i has not come up
        have hno : ∀ e ∈ oj.after, Region.binds md e = true → e.on ≠ i := by
          intro e he hb heq
          have y1 := hall e he hb
          have y0 := (mem_ready.1 hr).1
          rw [heq] at y1
          by_cases hlt : i < listed.size
          · simp [hlt] at y0 y1
            rw [y0] at y1
            cases y1
          · simp [Array.getElem?_eq_none (Nat.le_of_not_lt hlt)] at y1
        -- so it is not number T
        have hjT : j ≠ T := by
          intro e
          obtain ⟨x, hx, hb, hon⟩ := hT oj (e ▸ hoj)
          exact hno x hx hb hon
        have step := wpOp_putIf hoj (hfree j oj hoj hji hun hno) (fun cs b => spec i oi cs b hi) (fun cs b => spec j oj cs b hoj) hQ hy (H.2 j (ready_mono hj hji))
        refine wpOp_mono (fun a' w' k => ?_) step
        have hS' := k.2.1 hjT
        refine ⟨fun _ => hS', ih _ a' w' (fun q oq hq hqi hqun hqno => ?_) (ready_mono hr (fun e => hji e.symm)) k.1 hS' ?_⟩
        · refine hfree q oq hq hqi ?_ hqno
          by_cases hjq : j = q
          · rw [← hjq]; exact hun
          · rw [getD_set_ne true hjq] at hqun; exact hqun
        · rw [Array.setIfInBounds_comm _ _ hji]
          exact k.2.2

/-- The same, its side conditions as closed Bools. -/
theorem anyT_take {i : Nat} {oi : Oper} {v : Value} {fuel : Nat} {listed : Array Bool} {a : Act} {w : World} (hi : ops[i]? = some oi)
    (hs : Region.noSelect ops = true) (hf : Region.free md ops listed i = true) (hr : (Region.ready md ops listed).contains i = true)
    (hT : ((ops[T]?).all fun o => o.after.any fun e => Region.binds md e && e.on == i) = true)
    (hQ : ∀ c a w, Q (.panic c) (a.put oi.dst v) w → Q (.panic c) a w) (hy : YieldsIf P ops S oi v a) (hS : S w)
    (h : anyT P md ops Q S T fuel (listed.setIfInBounds i true) (a.put oi.dst v) w) : anyT P md ops Q S T (fuel + 1) listed a w :=
  anyT_first hi hs (fun o ho => by
    rw [ho] at hT
    simp only [Option.all_some, Array.any_eq_true'] at hT
    obtain ⟨e, he, hb⟩ := hT
    simp only [Bool.and_eq_true, beq_iff_eq] at hb
    exact ⟨e, he, hb.1, hb.2⟩) hQ fuel listed a w (Region.free_spec hi hf) (by simpa using hr) hy hS h

/-- One operation alone may come up. -/
theorem anyT_one {i : Nat} {o : Oper} {fuel : Nat} {listed : Array Bool} {a : Act} {w : World} (hr : Region.ready md ops listed = [i]) (ho : ops[i]? = some o)
    (h : ∀ K' : Act → World → Prop, Shut (∀ a w, (i ≠ T → S w) → anyT P md ops Q S T fuel (listed.setIfInBounds i true) a w → K' a w) → if Region.wanted o (yielded ops a.tmps) = true then Oper.wp P o a w K' Q else K' (a.put o.dst undef) w) :
    anyT P md ops Q S T (fuel + 1) listed a w := by
  refine ⟨fun h0 => (by rw [hr] at h0; cases h0), fun j hj => ?_⟩
  rw [hr] at hj
  obtain rfl : j = i := by simpa using hj
  exact wpOp_step ho (fun K' hK => h K' (fun a w k1 k2 => hK a w ⟨k1, k2⟩))

/-- One of two. -/
theorem anyT_two {i j : Nat} {oi oj : Oper} {fuel : Nat} {listed : Array Bool} {a : Act} {w : World} (hr : Region.ready md ops listed = [i, j]) (hi : ops[i]? = some oi) (hj : ops[j]? = some oj)
    (h1 : ∀ K' : Act → World → Prop, Shut (∀ a w, (i ≠ T → S w) → anyT P md ops Q S T fuel (listed.setIfInBounds i true) a w → K' a w) → if Region.wanted oi (yielded ops a.tmps) = true then Oper.wp P oi a w K' Q else K' (a.put oi.dst undef) w)
    (h2 : ∀ K' : Act → World → Prop, Shut (∀ a w, (j ≠ T → S w) → anyT P md ops Q S T fuel (listed.setIfInBounds j true) a w → K' a w) → if Region.wanted oj (yielded ops a.tmps) = true then Oper.wp P oj a w K' Q else K' (a.put oj.dst undef) w) :
    anyT P md ops Q S T (fuel + 1) listed a w := by
  refine ⟨fun h0 => (by rw [hr] at h0; cases h0), fun q hq => ?_⟩
  rw [hr] at hq
  simp only [List.mem_cons, List.not_mem_nil, or_false] at hq
  rcases hq with rfl | rfl
  · exact wpOp_step hi (fun K' hK => h1 K' (fun a w k1 k2 => hK a w ⟨k1, k2⟩))
  · exact wpOp_step hj (fun K' hK => h2 K' (fun a w k1 k2 => hK a w ⟨k1, k2⟩))
end

end Go.Proofs.Qxb6600123a
