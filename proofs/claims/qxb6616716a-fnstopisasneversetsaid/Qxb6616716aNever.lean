import Derived.Test.Qxb6616716aLaws
namespace Go.Proofs.Qxb6616716a
open Go.RowKit

section
variable {w : World} {lo hi bq : Nat} {tb : Nat → Nat} {N : Nat} {at_ : Nat → Int} {live : Nat → Bool} {es : List Ent} {ix : Nat → Int}

theorem Mod.lower {w' : World} {lo' : Nat} (h : Mod lo' hi w w') (hh : lo ≤ lo') : Mod lo hi w w' := ⟨h.os, h.tape, h.output, h.size, fun k hk ho => h.block k hk (by omega), h.kept⟩

/-- the second queue's building -/
structure CI (w2 wr : World) (k : Nat) (at_ : Nat → Int) (i : Nat) (tb : Nat → Nat) (es : List Ent) (ix : Nat → Int) : Prop where
  hq : HQ wr w2.heap.size wr.heap.size w2.heap.size tb (fun x => x < i ∧ x ≠ k) es (fun _ => true) ix
  perm : es.Perm (lents at_ (updF (fun _ => true) k false) i)
  below : Below w2.heap.size w2 wr
theorem CI.step {w2 wr w3 : World} {k i : Nat} (h : CI w2 wr k at_ i tb es ix) (hik : i ≠ k) (hp : PushPost wr w2.heap.size w2.heap.size tb (fun x => x < i ∧ x ≠ k) es (fun _ => true) ⟨at_ i, i⟩ w3) :
    ∃ es' ix', CI w2 w3 k at_ (i + 1) (updT tb i wr.heap.size) es' ix' := by
  obtain ⟨es', ix', h1, h2, h3, h4⟩ := hp
  refine ⟨es', ix', ?_, ?_, h.below.trans (h3.below h.below.size)⟩
  · rw [updF_true, show addN (fun x => x < i ∧ x ≠ k) i = fun x => x < i + 1 ∧ x ≠ k by funext x; unfold addN; exact propext (by omega)] at h1
    exact h1
  · rw [lents_succ, if_pos (by simp [updF, hik])]
    exact h2.trans (List.Perm.append_right _ h.perm)
theorem CI.skip {w2 wr : World} {k : Nat} (h : CI w2 wr k at_ k tb es ix) : CI w2 wr k at_ (k + 1) tb es ix := by
  refine ⟨?_, ?_, h.below⟩
  · have := h.hq
    rw [show (fun x => x < k ∧ x ≠ k) = fun x => x < k + 1 ∧ x ≠ k by funext x; exact propext (by omega)] at this
    exact this
  · rw [lents_succ, if_neg (by simp [updF]), List.append_nil]
    exact h.perm
theorem CI.start (w2 : World) (k : Nat) (at_ : Nat → Int) : CI w2 (w2.alloc (.cells qcells 51)) k at_ 0 (fun _ => 0) [] (fun _ => 0) := by
  refine ⟨?_, List.Perm.refl _, (Below.refl _ _).alloc (Nat.le_refl _) _⟩
  have := newQueue_hq w2 w2.heap.size (Nat.le_refl _)
  rw [show (fun x => x < 0) = fun x => x < 0 ∧ x ≠ k by funext x; exact propext (by omega)] at this
  exact this

/-- both queues being drained -/
structure TI (w5 wr : World) (lo mid hiB bqA bqB : Nat) (ta tbB : Nat → Nat) (N C : Nat) (nB : Nat → Prop) (at_ : Nat → Int) (live : Nat → Bool) (k j : Nat) (esA esB : List Ent) (ixA ixB : Nat → Int) (p : Ent) : Prop where
  a : HQ wr lo mid bqA ta (fun x => x < N) esA live ixA
  b : HQ wr mid hiB bqB tbB nB esB (fun _ => true) ixB
  perm : esA.Perm esB
  len : esA.length + j = C
  mem : ∀ x ∈ esA, x.seq < N ∧ x.seq ≠ k ∧ x.at_ = at_ x.seq
  prev : 0 < j → ∀ x ∈ esA, p.lt x = true
  mod : Mod lo hiB w5 wr

theorem root_eq {esA esB : List Ent} (hp : esA.Perm esB) (ha : IsHeap esA) (hb : IsHeap esB) (h0 : 0 < esA.length) : E esB 0 = E esA 0 := by
  have hl := hp.length_eq
  obtain ⟨i, hi, he⟩ := mem_E (hp.subset (E_mem h0))
  obtain ⟨j, hj, hf⟩ := mem_E (hp.symm.subset (E_mem (es := esB) (j := 0) (by omega)))
  have h1 := hb.root i hi
  have h2 := ha.root j hj
  rw [he] at h1
  rw [hf] at h2
  have := lt_total h1 h2
  cases hA : E esA 0
  cases hB : E esB 0
  rw [hA, hB] at this
  simp at this
  rw [this.1, this.2]
theorem tail_perm {esA esB : List Ent} (hp : esA.Perm esB) (h0 : 0 < esA.length) (he : E esB 0 = E esA 0) : (esA.eraseIdx 0).Perm (esB.eraseIdx 0) := by
  have hl := hp.length_eq
  have h1 := erase_perm esA 0 h0
  have h2 := erase_perm esB 0 (by omega)
  rw [← E_get h0] at h1
  rw [← E_get (by omega), he] at h2
  exact ((h1.trans hp).trans h2.symm).cons_inv

theorem TI.step {w5 wr w6 w7 : World} {mid hiB bqA bqB : Nat} {ta tbB : Nat → Nat} {C : Nat} {nB : Nat → Prop} {k j : Nat} {esA esB : List Ent} {ixA ixB : Nat → Int} {p : Ent}
    (h : TI w5 wr lo mid hiB bqA bqB ta tbB N C nB at_ live k j esA esB ixA ixB p) (h0 : 0 < esA.length) (hlm : lo ≤ mid) (hmh : mid ≤ hiB) (hA : RmHQ wr lo mid bqA ta (fun x => x < N) esA 0 live ixA w6) (hB : RmHQ w6 mid hiB bqB tbB nB esB 0 (fun _ => true) ixB w7) :
    ∃ esA' esB' ixA' ixB', TI w5 w7 lo mid hiB bqA bqB ta tbB N C nB at_ live k (j + 1) esA' esB' ixA' ixB' (E esA 0) := by
  obtain ⟨ea, ia, a1, a2, a3, a4, a5⟩ := hA
  obtain ⟨eb, ib, b1, b2, b3, b4, b5⟩ := hB
  refine ⟨ea, eb, ia, ib, a1.mod b5 (Or.inl (Nat.le_refl _)), b1, ?_, ?_, fun x hx => h.mem x (List.mem_of_mem_eraseIdx (a2.subset hx)), fun _ x hx => strict h.a.heap h.a.ixok (a2.subset hx), (h.mod.trans (a5.widen hmh)).trans (b5.lower hlm)⟩
  · exact (a2.trans (tail_perm h.perm h0 (root_eq h.perm h.a.heap h.b.heap h0))).trans b2.symm
  · have := h.len
    rw [a2.length_eq, List.length_eraseIdx, if_pos h0]
    omega
end
end Go.Proofs.Qxb6616716a
