import Derived.Test.Qxb6616714aRows
import Derived.WalkKit
import Derived.OrdersHeld
namespace Go.Proofs.Qxb6616714a

/-! ### A region that draws its order: loads taken first while one operation c, which waits for them, has not come up -/
section
variable {P : Program} {ops : Array Oper} {Q : Exit → Act → World → Prop} {md : Region.Mode} {S : World → Prop} {c : Nat}

/-- Whatever order is picked from here on; S holds behind every operation that is carried out while c has not come up. -/
def wpAnyC (P : Program) (md : Region.Mode) (ops : Array Oper) (Q : Exit → Act → World → Prop) (S : World → Prop) (c : Nat) : Nat → Array Bool → Act → World → Prop
  | 0, listed, a, w => Region.ready md ops listed = [] ∧ Q .normal a w
  | fuel + 1, listed, a, w =>
    (Region.ready md ops listed = [] → Q .normal a w) ∧
    ∀ i ∈ Region.ready md ops listed, wpOp P ops Q i (fun a' w' => ((listed.setIfInBounds i true).getD c true = false → S w') ∧ wpAnyC P md ops Q S c fuel (listed.setIfInBounds i true) a' w') a w

theorem wpAny_of_C : ∀ (fuel : Nat) (listed : Array Bool) (a : Act) (w : World), wpAnyC P md ops Q S c fuel listed a w → wpAny P md ops Q fuel listed a w
  | 0, _, _, _, h => h
  | fuel + 1, _, _, _, h => ⟨h.1, fun i hi => wpOp_mono (fun a' w' h' => wpAny_of_C fuel _ a' w' h'.2) (h.2 i hi)⟩

theorem wpAnyC_first {i : Nat} {oi oc : Oper} {v : Value} (hi : ops[i]? = some oi) (hoc : ops[c]? = some oc) (hwait : ∃ e ∈ oc.after, Region.binds md e = true ∧ e.on = i) (hne : c ≠ i)
    (hsel : ∀ (j : Nat) (o : Oper) cs b, ops[j]? = some o → o.op ≠ .select cs b)
    (hQ : ∀ c a w, Q (.panic c) (a.put oi.dst v) w → Q (.panic c) a w) :
    ∀ (fuel : Nat) (listed : Array Bool) (a : Act) (w : World),
      (∀ j oj, ops[j]? = some oj → j ≠ i → listed.getD j true = false → (∀ e ∈ oj.after, Region.binds md e = true → e.on ≠ i) → oi.apart ops oj = true) →
      i ∈ Region.ready md ops listed → listed.getD c true = false → YieldsIf P ops S oi v a → S w →
      wpAnyC P md ops Q S c fuel (listed.setIfInBounds i true) (a.put oi.dst v) w → wpAnyC P md ops Q S c (fuel + 1) listed a w := by
  intro fuel
  induction fuel with
  | zero =>
    intro listed a w _ hr hcu hy hS H
    refine ⟨fun h => (by rw [h] at hr; cases hr), fun j hj => ?_⟩
    by_cases hji : j = i
    · subst hji; exact hy.wpOp hi hS ⟨fun _ => hS, H⟩
    · have := ready_mono hj hji
      rw [H.1] at this
      cases this
  | succ fuel ih =>
    intro listed a w hfree hr hcu hy hS H
    refine ⟨fun h => (by rw [h] at hr; cases hr), fun j hj => ?_⟩
    by_cases hji : j = i
    · subst hji; exact hy.wpOp hi hS ⟨fun _ => hS, H⟩
    · have h1 := H.2 j (ready_mono hj hji)
      obtain ⟨hjun, oj, hoj, hall⟩ := mem_ready.1 hj
      have hnot : ∀ e ∈ oj.after, Region.binds md e = true → e.on ≠ i := fun e he hb heq => by
        have h1 := hall e he hb
        have h0 := (mem_ready.1 hr).1
        rw [heq] at h1
        rcases Nat.lt_or_ge i listed.size with h' | h'
        · simp [h'] at h0 h1; rw [h0] at h1; cases h1
        · simp [Array.getElem?_eq_none h'] at h1
      have hjc : j ≠ c := fun e => by
        subst e
        rw [hoj] at hoc
        cases hoc
        obtain ⟨e, he, hb, ho⟩ := hwait
        exact hnot e he hb ho
      have h2 := wpOp_putIf hoj (hfree j oj hoj hji hjun hnot) (fun cs b => hsel i oi cs b hi) (fun cs b => hsel j oj cs b hoj) hQ hy h1
      have hfree' : ∀ k ok, ops[k]? = some ok → k ≠ i → (listed.setIfInBounds j true).getD k true = false →
          (∀ e ∈ ok.after, Region.binds md e = true → e.on ≠ i) → oi.apart ops ok = true := fun k ok hk hki hun hno => by
        refine hfree k ok hk hki ?_ hno
        by_cases hjk : j = k
        · subst hjk; exact hjun
        · rw [getD_set_ne true hjk] at hun; exact hun
      have hcj : (listed.setIfInBounds j true).getD c true = false := by rw [getD_set_ne true hjc]; exact hcu
      have hcij : ((listed.setIfInBounds i true).setIfInBounds j true).getD c true = false := by rw [getD_set_ne true hjc, getD_set_ne true (Ne.symm hne)]; exact hcu
      refine wpOp_mono (fun a' w' h3 => ⟨fun _ => h3.2.1 hcij, ih (listed.setIfInBounds j true) a' w' hfree' (ready_mono hr (Ne.symm hji)) hcj h3.1 (h3.2.1 hcij) ?_⟩) h2
      rw [Array.setIfInBounds_comm _ _ hji]
      exact h3.2.2

/-- .. an operation that yields its value in whatever world needs no S -/
theorem wpAnyC_firstY {i : Nat} {oi : Oper} {v : Value} (hi : ops[i]? = some oi) (hne : c ≠ i)
    (hsel : ∀ (j : Nat) (o : Oper) cs b, ops[j]? = some o → o.op ≠ .select cs b)
    (hQ : ∀ c a w, Q (.panic c) (a.put oi.dst v) w → Q (.panic c) a w) :
    ∀ (fuel : Nat) (listed : Array Bool) (a : Act) (w : World),
      (∀ j oj, ops[j]? = some oj → j ≠ i → listed.getD j true = false → (∀ e ∈ oj.after, Region.binds md e = true → e.on ≠ i) → oi.apart ops oj = true) →
      i ∈ Region.ready md ops listed → YieldsIf P ops (fun _ => True) oi v a → (listed.getD c true = false → S w) →
      wpAnyC P md ops Q S c fuel (listed.setIfInBounds i true) (a.put oi.dst v) w → wpAnyC P md ops Q S c (fuel + 1) listed a w := by
  intro fuel
  induction fuel with
  | zero =>
    intro listed a w _ hr hy hS H
    refine ⟨fun h => (by rw [h] at hr; cases hr), fun j hj => ?_⟩
    by_cases hji : j = i
    · subst hji; exact hy.wpOp hi trivial ⟨fun h => hS (by rwa [getD_set_ne true (Ne.symm hne)] at h), H⟩
    · have := ready_mono hj hji
      rw [H.1] at this
      cases this
  | succ fuel ih =>
    intro listed a w hfree hr hy hS H
    refine ⟨fun h => (by rw [h] at hr; cases hr), fun j hj => ?_⟩
    by_cases hji : j = i
    · subst hji; exact hy.wpOp hi trivial ⟨fun h => hS (by rwa [getD_set_ne true (Ne.symm hne)] at h), H⟩
    · have h1 := H.2 j (ready_mono hj hji)
      obtain ⟨hjun, oj, hoj, hall⟩ := mem_ready.1 hj
      have hnot : ∀ e ∈ oj.after, Region.binds md e = true → e.on ≠ i := fun e he hb heq => by
        have h1 := hall e he hb
        have h0 := (mem_ready.1 hr).1
        rw [heq] at h1
        rcases Nat.lt_or_ge i listed.size with h' | h'
        · simp [h'] at h0 h1; rw [h0] at h1; cases h1
        · simp [Array.getElem?_eq_none h'] at h1
      have h2 := wpOp_putIf hoj (hfree j oj hoj hji hjun hnot) (fun cs b => hsel i oi cs b hi) (fun cs b => hsel j oj cs b hoj) hQ hy h1
      have hfree' : ∀ k ok, ops[k]? = some ok → k ≠ i → (listed.setIfInBounds j true).getD k true = false →
          (∀ e ∈ ok.after, Region.binds md e = true → e.on ≠ i) → oi.apart ops ok = true := fun k ok hk hki hun hno => by
        refine hfree k ok hk hki ?_ hno
        by_cases hjk : j = k
        · subst hjk; exact hjun
        · rw [getD_set_ne true hjk] at hun; exact hun
      have hcij : ((listed.setIfInBounds i true).setIfInBounds j true).getD c true = (listed.setIfInBounds j true).getD c true := by
        rw [Array.setIfInBounds_comm _ _ (Ne.symm hji), getD_set_ne true (Ne.symm hne)]
      refine wpOp_mono (fun a' w' h3 => ⟨fun h => h3.2.1 (hcij.trans h), ih (listed.setIfInBounds j true) a' w' hfree' (ready_mono hr (Ne.symm hji)) h3.1 (fun h => h3.2.1 (hcij.trans h)) ?_⟩) h2
      rw [Array.setIfInBounds_comm _ _ hji]
      exact h3.2.2

theorem wpAnyC_takeY {i : Nat} {oi : Oper} {v : Value} {fuel : Nat} {listed : Array Bool} {a : Act} {w : World} (hi : ops[i]? = some oi) (hne : c ≠ i)
    (hs : Region.noSelect ops = true) (hf : Region.free md ops listed i = true) (hr : (Region.ready md ops listed).contains i = true)
    (hQ : ∀ c a w, Q (.panic c) (a.put oi.dst v) w → Q (.panic c) a w) (hy : YieldsIf P ops (fun _ => True) oi v a) (hS : S w)
    (h : wpAnyC P md ops Q S c fuel (listed.setIfInBounds i true) (a.put oi.dst v) w) : wpAnyC P md ops Q S c (fuel + 1) listed a w :=
  wpAnyC_firstY hi hne (Region.noSelect_spec hs) hQ fuel listed a w (Region.free_spec hi hf) (by simpa using hr) hy (fun _ => hS) h

/-- does c wait for i? -/
def waitsOn (md : Region.Mode) (ops : Array Oper) (c i : Nat) : Bool := ((ops[c]?).map fun o => o.after.any fun e => Region.binds md e && e.on == i).getD false

theorem wpAnyC_take {i : Nat} {oi : Oper} {v : Value} {fuel : Nat} {listed : Array Bool} {a : Act} {w : World} (hi : ops[i]? = some oi) (hwait : waitsOn md ops c i = true) (hne : c ≠ i) (hcu : listed.getD c true = false)
    (hs : Region.noSelect ops = true) (hf : Region.free md ops listed i = true) (hr : (Region.ready md ops listed).contains i = true)
    (hQ : ∀ c a w, Q (.panic c) (a.put oi.dst v) w → Q (.panic c) a w) (hy : YieldsIf P ops S oi v a) (hS : S w)
    (h : wpAnyC P md ops Q S c fuel (listed.setIfInBounds i true) (a.put oi.dst v) w) : wpAnyC P md ops Q S c (fuel + 1) listed a w := by
  unfold waitsOn at hwait
  cases hoc : ops[c]? with
  | none => simp [hoc] at hwait
  | some oc =>
    simp only [hoc, Option.map_some, Option.getD_some, Array.any_eq_true', Bool.and_eq_true, beq_iff_eq] at hwait
    obtain ⟨e, he, hb, ho⟩ := hwait
    exact wpAnyC_first hi hoc ⟨e, he, hb, ho⟩ hne (Region.noSelect_spec hs) hQ fuel listed a w (Region.free_spec hi hf) (by simpa using hr) hcu hy hS h

/-- the beginning -/
theorem wp_region_C {id : Nat} {a : Act} {w : World} (S : World → Prop) (c : Nat) (hm : P.follows .mixedOrders = true)
    (h : wpAnyC P .any ops Q S c ops.size (Array.replicate ops.size false) a w.drew) : (Code.region id ops true).wp P Q a w :=
  wp_region_any hm (wpAny_of_C _ _ _ _ h)

/-- one operation alone can come up -/
theorem wpAnyC_one {i : Nat} {o : Oper} {fuel : Nat} {listed : Array Bool} {a : Act} {w : World} (hr : Region.ready md ops listed = [i]) (ho : ops[i]? = some o) (hg : o.guard = none)
    (h : ∀ K : Act → World → Prop, (∀ a' w', ((listed.setIfInBounds i true).getD c true = false → S w') → wpAnyC P md ops Q S c fuel (listed.setIfInBounds i true) a' w' → K a' w') → o.wp P a w K Q) :
    wpAnyC P md ops Q S c (fuel + 1) listed a w := by
  refine ⟨fun h0 => (by rw [hr] at h0; cases h0), fun j hj => ?_⟩
  rw [hr] at hj
  have : j = i := by simpa using hj
  subst this
  unfold wpOp
  simp only [ho]
  rw [if_pos (by simp [Region.wanted, hg])]
  exact .inl (h _ (fun a' w' h1 h2 => ⟨h1, h2⟩))

theorem wpAnyC_done {fuel : Nat} {listed : Array Bool} {a : Act} {w : World} (hr : Region.ready md ops listed = []) (h : Q .normal a w) : wpAnyC P md ops Q S c fuel listed a w := by
  cases fuel with
  | zero => exact ⟨hr, h⟩
  | succ n => exact ⟨fun _ => h, fun i hi => by rw [hr] at hi; cases hi⟩
end
end Go.Proofs.Qxb6616714a
