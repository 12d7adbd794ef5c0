import Derived.Test.Qxb6616716aLaws
namespace Go.Proofs.Qxb6616716a
open Go.RowKit

theorem ent_eq {a b : Ent} (h1 : a.at_ = b.at_) (h2 : a.seq = b.seq) : a = b := by
  cases a
  cases b
  simp at h1 h2
  rw [h1, h2]

/-- the root behind a push -/
theorem push_root {es es' : List Ent} {e : Ent} (hp : es'.Perm (es ++ [e])) (hh' : IsHeap es') (hh : IsHeap es) (hf : ∀ x ∈ es, x.seq ≠ e.seq) (h0 : 0 < es.length) : E es' 0 = if e.lt (E es 0) then e else E es 0 := by
  have hl : 0 < es'.length := by rw [hp.length_eq]; simp
  have hr : E es' 0 ∈ es ++ [e] := hp.subset (E_mem hl)
  have hmin : ∀ x ∈ es ++ [e], x.lt (E es' 0) = false := fun x hx => by
    obtain ⟨j, hj, he⟩ := mem_E (hp.symm.subset hx)
    rw [← he]
    exact hh'.root j hj
  have hroot : ∀ x ∈ es, x.lt (E es 0) = false := fun x hx => by
    obtain ⟨j, hj, he⟩ := mem_E hx
    rw [← he]
    exact hh.root j hj
  have he' := hmin e (by simp)
  have hp' := hmin (E es 0) (List.mem_append_left _ (E_mem h0))
  rcases List.mem_append.1 hr with hr | hr
  · have h1 := hroot _ hr
    cases hlt : e.lt (E es 0) with
    | true =>
      have := lt_trans' h1 he'
      rw [hlt] at this
      cases this
    | false =>
      have := lt_total h1 hp'
      simp only [Bool.false_eq_true, if_false]
      exact ent_eq this.1 this.2
  · simp at hr
    cases hlt : e.lt (E es 0) with
    | true => simpa using hr
    | false =>
      rw [hr] at hp'
      exact absurd (lt_total hlt hp').2.symm (hf _ (E_mem h0))
theorem push_root0 {es' : List Ent} {e : Ent} (hp : es'.Perm ([] ++ [e])) : E es' 0 = e := by
  have hl : 0 < es'.length := by rw [hp.length_eq]; simp
  have := hp.subset (E_mem hl)
  simpa using this

section
variable {w : World} {lo bq : Nat} {tb : Nat → Nat} {v : Value} {ix : Nat → Int}
theorem BI.step2 {wr w2 : World} {N : Nat} {at_ : Nat → Int} {k : Nat} {es : List Ent} (h : BI w wr lo bq N at_ v k tb es ix) (hk : k < N) (hv : v.ownBlock ≠ some w.heap.size)
    (hp : PushPost wr lo bq tb (fun x => x < k) es (fun _ => true) ⟨at_ k, k⟩ w2) :
    ∃ es' ix', BI w (w2.setCell ⟨w.heap.size, k, none⟩ (.pointer (some ⟨wr.heap.size, 0, none⟩))) lo bq N at_ v (k + 1) (updT tb k wr.heap.size) es' ix' ∧ es'.Perm (es ++ [⟨at_ k, k⟩]) := by
  obtain ⟨es', ix', h1, h2, h3, h4⟩ := hp
  have hO : (31 : TypeId) ≠ 51 ∧ (31 : TypeId) ≠ 53 ∧ (31 : TypeId) ≠ 55 := by decide
  have ha := h.arr.mod hO h3
  have hoth : Other w2 w.heap.size := ha.other hO
  refine ⟨es', ix', ⟨?_, ?_, ?_, ?_, ?_, ?_⟩, h2⟩
  · rw [addN_lt, updF_true] at h1
    have := h1.setFar (p := ⟨w.heap.size, k, none⟩) hoth (.pointer (some ⟨wr.heap.size, 0, none⟩))
    simpa using this
  · rw [ents_succ]
    exact h2.trans (List.Perm.append_right _ h.perm)
  · refine (ha.set hk _).congr fun j hj => ?_
    by_cases hjk : j = k
    · subst hjk
      simp [ptrV, updT]
    · by_cases hj2 : j < k
      · simp only [if_neg hjk, if_pos hj2, if_pos (show j < k + 1 by omega), ptrV, updT]
      · simp only [if_neg hjk, if_neg hj2, if_neg (show ¬ j < k + 1 by omega)]
  · exact (((h.mod.widen (Nat.le_of_lt h.size)).trans h3).cap (Nat.le_refl _)).setNew (Nat.le_refl _) _
  · have := h.size; simp; omega
  · exact (h.ats.mod h3).setNew hv _
theorem BI.seq_lt {wr : World} {N : Nat} {at_ : Nat → Int} {k : Nat} {es : List Ent} (h : BI w wr lo bq N at_ v k tb es ix) {x : Ent} (hx : x ∈ es) : x.seq < k := by
  obtain ⟨v, hq⟩ := h.hq.qs
  exact hq.seqs x hx
/-- the root behind the k-th push -/
def nextRoot (k : Nat) (e p : Ent) : Ent := if k = 0 then e else if e.lt p then e else p
theorem BI.root {wr wr' : World} {N : Nat} {at_ : Nat → Int} {k : Nat} {es es' : List Ent} {tb' : Nat → Nat} {ix' : Nat → Int} (h : BI w wr lo bq N at_ v k tb es ix) (h' : BI w wr' lo bq N at_ v (k + 1) tb' es' ix') (hp : es'.Perm (es ++ [⟨at_ k, k⟩])) {p : Ent} (hr : 0 < k → E es 0 = p) :
    E es' 0 = nextRoot k ⟨at_ k, k⟩ p := by
  unfold nextRoot
  have hl : es.length = k := by rw [h.perm.length_eq, ents_length]
  by_cases hk : k = 0
  · rw [if_pos hk]
    rw [hk] at hl
    rw [List.eq_nil_of_length_eq_zero hl] at hp
    exact push_root0 hp
  · rw [if_neg hk, ← hr (by omega)]
    exact push_root hp h'.hq.heap h.hq.heap (fun x hx => by have := h.seq_lt hx; simp; omega) (by omega)
end

end Go.Proofs.Qxb6616716a
