import Derived.Test.Qxb6616716aDown
namespace Go.Proofs.Qxb6616716a
open Go.RowKit

theorem E_take {es : List Ent} {k j : Nat} (h : j < k) : E (es.take k) j = E es j := by
  unfold E
  rw [List.getD_eq_getElem?_getD, List.getElem?_take_of_lt h, ← List.getD_eq_getElem?_getD]
theorem E_mem {es : List Ent} {j : Nat} (h : j < es.length) : E es j ∈ es := by rw [E_get h]; exact List.getElem_mem _
theorem mem_E {es : List Ent} {x : Ent} (h : x ∈ es) : ∃ j, j < es.length ∧ E es j = x := by
  obtain ⟨j, hj, rfl⟩ := List.mem_iff_getElem.1 h
  exact ⟨j, hj, E_get hj⟩
theorem flat_take (tb : Nat → Nat) : ∀ (es : List Ent) (k : Nat), (es.take k).flatMap (ecells tb) = (es.flatMap (ecells tb)).take (k * 3)
  | [], k => by simp
  | e :: r, 0 => by simp
  | e :: r, k + 1 => by
    rw [List.take_succ_cons, List.flatMap_cons, List.flatMap_cons, flat_take tb r k, show (k + 1) * 3 = k * 3 + 3 by omega, List.take_append]
    have : (ecells tb e).length = 3 := rfl
    rw [this, List.take_of_length_le (l := ecells tb e) (by rw [this]; omega)]
    simp
theorem take_last {es : List Ent} {k : Nat} (h : es.length = k + 1) : es = es.take k ++ [E es k] := by
  have := List.take_append_drop k es
  rw [List.drop_eq_getElem_cons (by omega), List.drop_of_length_le (by omega), ← E_get (by omega)] at this
  exact this.symm
theorem erase_perm : ∀ (l : List Ent) (i : Nat) (h : i < l.length), (l[i] :: l.eraseIdx i).Perm l
  | x :: l, 0, h => List.Perm.refl _
  | x :: l, i + 1, h => by
    have := erase_perm l i (by simpa using h)
    simp only [List.getElem_cons_succ, List.eraseIdx_cons_succ]
    exact (List.Perm.swap _ _ _).trans (this.cons x)
theorem rm_perm {es : List Ent} {k i : Nat} (h : es.length = k + 1) (hi : i < k) : ((es.take k).set i (E es k)).Perm (es.eraseIdx i) := by
  have hl : (es.take k).length = k := by simp; omega
  have h1 : es.eraseIdx i = (es.take k).eraseIdx i ++ [E es k] := by
    conv => lhs; rw [take_last h]
    exact List.eraseIdx_append_of_lt_length (by omega) _
  rw [h1]
  have h2 := erase_perm ((es.take k).set i (E es k)) i (by simp; omega)
  rw [List.getElem_set_self, List.eraseIdx_set_eq] at h2
  exact h2.symm.trans (List.perm_append_singleton _ _).symm
theorem rm_last {es : List Ent} {k : Nat} (h : es.length = k + 1) : es.take k = es.eraseIdx k := by
  have hl : (es.take k).length = k := by simp; omega
  conv => rhs; rw [take_last h]
  rw [List.eraseIdx_append_of_length_le (by omega)]
  simp [hl]
theorem IxOk.hole {es : List Ent} {ix : Nat → Int} {i : Nat} (h : IxOk es ix) (hi : i < es.length) : HoleIx es ix i (E es i) := by
  intro j hj hne
  refine ⟨h j hj, fun x => ?_⟩
  have h1 := h j hj
  rw [x, h i hi] at h1
  omega
theorem IxOk.rm {es : List Ent} {ix : Nat → Int} {i k : Nat} (h : IxOk es ix) (hk : es.length = k + 1) : HoleIx (es.take k) ix i (E es k) := by
  intro j hj hne
  have hj' : j < k := by simp at hj; omega
  rw [E_take hj']
  exact h.hole (i := k) (by omega) j (by omega) (by omega)
theorem IsHeap.rm {es : List Ent} {i k : Nat} (h : IsHeap es) (hk : es.length = k + 1) (hi : i < k) : DownOk (es.take k) i (E es k) := by
  refine ⟨fun j h1 h2 h3 h4 => ?_, fun j h1 h2 h3 h4 => ?_⟩
  · have hj' : j < k := by simp at h2; omega
    have hp : par j < j := by unfold par; omega
    rw [E_take hj', E_take (by omega)]
    exact h j h1 (by omega)
  · have hj' : j < k := by simp at h2; omega
    have hp : par j < j := by unfold par; omega
    have hp : par i < i := by unfold par; omega
    rw [E_take hj', E_take (by omega)]
    have a := h j h1 (by omega)
    rw [h3] at a
    exact lt_trans' (h i h4 (by omega)) a
theorem IsHeap.take {es : List Ent} {k : Nat} (h : IsHeap es) : IsHeap (es.take k) := by
  intro j h1 h2
  have hj' : j < k ∧ j < es.length := by simp at h2; omega
  have hp : par j < j := by unfold par; omega
  rw [E_take hj'.1, E_take (by omega)]
  exact h j h1 hj'.2
theorem IxOk.take {es : List Ent} {k : Nat} {ix : Nat → Int} (h : IxOk es ix) : IxOk (es.take k) ix := by
  intro j h2
  have hj' : j < k ∧ j < es.length := by simp at h2; omega
  rw [E_take hj'.1]
  exact h j hj'.2
theorem IxOk.out {es : List Ent} {ix : Nat → Int} {i : Nat} (h : IxOk es ix) (hi : i < es.length) {x : Ent} (hx : x ∈ es.eraseIdx i) : x.seq ≠ (E es i).seq := by
  obtain ⟨j, hj, hne, he⟩ := List.mem_eraseIdx_iff_getElem.1 hx
  rw [← E_get hj] at he
  rw [← he]
  exact (h.hole hi j hj hne).2
theorem rm_mem {es : List Ent} {k i : Nat} (h : es.length = k + 1) {x : Ent} (hx : x ∈ (es.take k).set i (E es k)) : x ∈ es := by
  rcases List.mem_or_eq_of_mem_set hx with hx | rfl
  · exact List.mem_of_mem_take hx
  · exact E_mem (by omega)

section
variable {w : World} {lo hi bq : Nat} {tb : Nat → Nat} {n : Nat → Prop} {v : Value} {es : List Ent} {F : Nat → Bool} {ix : Nat → Int}

/-- the row loses its last entry -/
theorem QS.shrunk {g cap last : Nat} (h : QS w lo hi bq tb n (.slice (some ⟨g, 0, none⟩) (last + 1) cap) es F ix) (hl : es.length = last + 1) (a b c : Value) :
    QS ((((w.setCell ⟨g, last * 3, none⟩ a).setCell ⟨g, last * 3 + 1, none⟩ b).setCell ⟨g, last * 3 + 2, none⟩ c).setCell ⟨bq, 2, none⟩ (.slice (some ⟨g, 0, none⟩) last cap))
      lo hi bq tb n (.slice (some ⟨g, 0, none⟩) last cap) (es.take last) F ix ∧
    Mod lo hi w ((((w.setCell ⟨g, last * 3, none⟩ a).setCell ⟨g, last * 3 + 1, none⟩ b).setCell ⟨g, last * 3 + 2, none⟩ c).setCell ⟨bq, 2, none⟩ (.slice (some ⟨g, 0, none⟩) last cap)) := by
  have nb : bq ≠ g := fun e => h.bq_ne_row (by rw [e]; rfl)
  have nt : ∀ s, n s → tb s ≠ g := fun s hs e => h.tb_ne_row hs (by rw [e]; rfl)
  have hglo : lo ≤ g := (h.row.lt g rfl).1
  have hghi : g < hi := h.rowr g rfl
  refine ⟨⟨?_, ?_, fun s hs => ?_, h.bqr, h.tbr, h.rowr, h.inj, fun x hx => h.seqs x (List.mem_of_mem_take hx)⟩, ?_⟩
  · have h3 : (((w.setCell ⟨g, last * 3, none⟩ a).setCell ⟨g, last * 3 + 1, none⟩ b).setCell ⟨g, last * 3 + 2, none⟩ c).heap[bq]? = w.heap[bq]? := by
      rw [Below.heap_setCell _ _ _ _ nb, Below.heap_setCell _ _ _ _ nb, Below.heap_setCell _ _ _ _ nb]
    rw [set_same (h3.trans h.queue)]
    rfl
  · have hrow := h.row
    rw [hl] at hrow
    have r1 := (((hrow.stored (last * 3) a).1.stored (last * 3 + 1) b).1.stored (last * 3 + 2) c).1
    have r2 := ownsRow_setCell_other r1 (a := ⟨bq, 2, none⟩) (fun x => nb (by simpa [Value.ownBlock] using x.symm)) (.slice (some ⟨g, 0, none⟩) last cap)
    obtain ⟨_, r3⟩ := r2
    rcases r3 with ⟨h', _⟩ | ⟨g', cap', cur, h', h2, h3, h4, h5, h6, h7⟩
    · cases h'
    · simp at h'
      obtain ⟨rfl, rfl⟩ := h'
      have hlen : (es.take last).length = last := by simp; omega
      refine ⟨flat3 _ _, Or.inr ⟨g, cap, cur, by rw [hlen], h2, h3, by omega, h5, h6, ?_⟩⟩
      rw [hlen, flat_take]
      have := congrArg (List.take (last * 3)) h7
      rw [List.take_take, Nat.min_eq_left (by omega)] at this
      rw [this, List.take_set_of_le (by omega), List.take_set_of_le (by omega), List.take_set_of_le (by omega)]
  · rw [Below.heap_setCell _ _ _ _ (h.tb_ne_bq hs), Below.heap_setCell _ _ _ _ (nt s hs), Below.heap_setCell _ _ _ _ (nt s hs), Below.heap_setCell _ _ _ _ (nt s hs)]
    exact h.tim s hs
  · obtain ⟨cur, c0⟩ := h.row_block (g := g) rfl
    have c1 := set_same c0 (last * 3) a
    have c2 := set_same c1 (last * 3 + 1) b
    have c3 : (((w.setCell ⟨g, last * 3, none⟩ a).setCell ⟨g, last * 3 + 1, none⟩ b).setCell ⟨g, last * 3 + 2, none⟩ c).heap[bq]? = w.heap[bq]? := by
      rw [Below.heap_setCell _ _ _ _ nb, Below.heap_setCell _ _ _ _ nb, Below.heap_setCell _ _ _ _ nb]
    exact (((((Mod.refl lo hi w).setCell hglo hghi _ c0 (by simp)).setCell hglo hghi _ c1 (by simp)).setCell hglo hghi _ c2 (by simp)).setCell h.bqr.1 h.bqr.2 _ (c3.trans h.queue) (by simp))

theorem QS.setIx (h : QS w lo hi bq tb n v es F ix) {s : Nat} (hs : n s) (z : Int) :
    QS (w.setCell ⟨tb s, 2, none⟩ (.int .i64 z)) lo hi bq tb n v es F (upd ix s z) ∧ Mod lo hi w (w.setCell ⟨tb s, 2, none⟩ (.int .i64 z)) := by
  refine ⟨⟨?_, ?_, fun s' hs' => ?_, h.bqr, h.tbr, h.rowr, h.inj, h.seqs⟩, (Mod.refl lo hi w).setCell (h.tbr s hs).1 (h.tbr s hs).2 _ (h.tim s hs) (by simp)⟩
  · rw [Below.heap_setCell _ _ _ _ (fun x => h.tb_ne_bq hs x.symm)]; exact h.queue
  · exact ownsRow_setCell_other h.row (a := ⟨tb s, 2, none⟩) (h.tb_ne_row hs) _
  · by_cases hse : s' = s
    · subst hse
      rw [set_same (h.tim s' hs)]
      simp [upd]
    · rw [Below.heap_setCell _ _ _ _ (fun x => hse (h.inj s' s hs' hs x)), h.tim s' hs']
      simp [upd, hse]

def updF (F : Nat → Bool) (s : Nat) (b : Bool) : Nat → Bool := fun k => if k = s then b else F k
theorem QS.setF (h : QS w lo hi bq tb n v es F ix) {s : Nat} (hs : n s) :
    QS (w.setCell ⟨tb s, 1, none⟩ .nilFunc) lo hi bq tb n v es (updF F s false) ix ∧ Mod lo hi w (w.setCell ⟨tb s, 1, none⟩ .nilFunc) := by
  refine ⟨⟨?_, ?_, fun s' hs' => ?_, h.bqr, h.tbr, h.rowr, h.inj, h.seqs⟩, (Mod.refl lo hi w).setCell (h.tbr s hs).1 (h.tbr s hs).2 _ (h.tim s hs) (by simp)⟩
  · rw [Below.heap_setCell _ _ _ _ (fun x => h.tb_ne_bq hs x.symm)]; exact h.queue
  · exact ownsRow_setCell_other h.row (a := ⟨tb s, 1, none⟩) (h.tb_ne_row hs) _
  · by_cases hse : s' = s
    · subst hse
      rw [set_same (h.tim s' hs)]
      simp [updF, fv]
    · rw [Below.heap_setCell _ _ _ _ (fun x => hse (h.inj s' s hs' hs x)), h.tim s' hs']
      simp [updF, hse]

theorem QS.setOther (h : QS w lo hi bq tb n v es F ix) {p : Addr} (hp : hi ≤ p.block) (u : Value) : QS (w.setCell p u) lo hi bq tb n v es F ix :=
  h.keep fun k _ hk _ => Below.heap_setCell _ _ _ _ (by omega)
end
end Go.Proofs.Qxb6616716a
