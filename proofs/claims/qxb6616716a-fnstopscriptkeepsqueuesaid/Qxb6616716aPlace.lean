import Derived.Test.Qxb6616716aQs
import Derived.Deep.Cut
namespace Go.Proofs.Qxb6616716a
open Go.RowKit

theorem cell_of {w : World} {k : Nat} {cs : Array Value} {T : TypeId} {fz : Nat × Nat} (h : w.heap[k]? = some (.cells cs T fz)) (j : Nat) (v : Value) (hv : cs[j]? = some v) : w.cell? ⟨k, j, none⟩ = some v := by
  simp [World.cell?, h, hv]
theorem free_of {w : World} {k : Nat} {cs : Array Value} {T : TypeId} (h : w.heap[k]? = some (.cells cs T (0, 0))) (j : Nat) : w.frozen? ⟨k, j, none⟩ = false := frozen_of_row w k j cs T h
theorem set_same {w : World} {k : Nat} {cs : Array Value} {T : TypeId} (h : w.heap[k]? = some (.cells cs T (0, 0))) (j : Nat) (u : Value) : (w.setCell ⟨k, j, none⟩ u).heap[k]? = some (.cells (cs.setIfInBounds j u) T (0, 0)) := heap_setCell_same w k j cs T u h

section
variable {w : World} {lo hi bq : Nat} {tb : Nat → Nat} {n : Nat → Prop} {v : Value} {es : List Ent} {F : Nat → Bool} {ix : Nat → Int}

/-- a timer's block is not the row, nor the queue -/
theorem QS.tb_ne_bq (h : QS w lo hi bq tb n v es F ix) {s : Nat} (hs : n s) : tb s ≠ bq := fun e => by
  have h1 := h.tim s hs
  rw [e, h.queue] at h1
  simp at h1
theorem QS.row_block (h : QS w lo hi bq tb n v es F ix) {g : Nat} (hg : v.ownBlock = some g) : ∃ cur, w.heap[g]? = some (.cells cur 55 (0, 0)) := by
  rcases h.row.2 with ⟨rfl, _⟩ | ⟨g', cap, cur, rfl, _, h1, _⟩
  · cases hg
  · simp [Value.ownBlock] at hg
    subst hg
    exact ⟨cur, h1⟩
theorem QS.tb_ne_row (h : QS w lo hi bq tb n v es F ix) {s : Nat} (hs : n s) : v.ownBlock ≠ some (tb s) := fun e => by
  obtain ⟨cur, h1⟩ := h.row_block e
  rw [h.tim s hs] at h1
  simp at h1
theorem QS.bq_ne_row (h : QS w lo hi bq tb n v es F ix) : v.ownBlock ≠ some bq := fun e => by
  obtain ⟨cur, h1⟩ := h.row_block e
  rw [h.queue] at h1
  simp at h1

/-- another world in which the queue's own blocks are as they were -/
theorem QS.keep {w' : World} (h : QS w lo hi bq tb n v es F ix) (hk : ∀ k, lo ≤ k → k < hi → k < w.heap.size → w'.heap[k]? = w.heap[k]?) : QS w' lo hi bq tb n v es F ix := by
  have lt : ∀ k o, w.heap[k]? = some o → k < w.heap.size := fun k o h => (Array.getElem?_eq_some_iff.1 h).1
  refine ⟨?_, ?_, fun s hs => ?_, h.bqr, h.tbr, h.rowr, h.inj, h.seqs⟩
  · rw [hk bq h.bqr.1 h.bqr.2 (lt _ _ h.queue)]; exact h.queue
  · refine ⟨h.row.1, ?_⟩
    rcases h.row.2 with ⟨h1, h2⟩ | ⟨g, cap, cur, h1, h2, h3, h4⟩
    · exact Or.inl ⟨h1, h2⟩
    · refine Or.inr ⟨g, cap, cur, h1, h2, ?_, h4⟩
      rw [hk g h2 (h.rowr g (by rw [h1]; rfl)) (lt _ _ h3)]
      exact h3
  · rw [hk (tb s) (h.tbr s hs).1 (h.tbr s hs).2 (lt _ _ (h.tim s hs))]; exact h.tim s hs
theorem QS.later {w' : World} (h : QS w lo hi bq tb n v es F ix) (hb : Below w.heap.size w w') : QS w' lo hi bq tb n v es F ix := h.keep fun k _ _ hk => hb.block k hk
theorem QS.mod {w' : World} {lo' hi' : Nat} (h : QS w lo hi bq tb n v es F ix) (hm : Mod lo' hi' w w') (hd : hi ≤ lo' ∨ hi' ≤ lo) : QS w' lo hi bq tb n v es F ix := h.keep fun k h1 h2 hk => hm.block k hk (by omega)

theorem QS.placed {g cap : Nat} (h : QS w lo hi bq tb n (.slice (some ⟨g, 0, none⟩) es.length cap) es F ix) (i : Nat) (hi' : i < es.length) (e : Ent) (hs : n e.seq) :
    QS ((((w.setCell ⟨g, i * 3, none⟩ (.int .i64 e.at_)).setCell ⟨g, i * 3 + 1, none⟩ (.int .u64 e.seq)).setCell ⟨g, i * 3 + 2, none⟩ (.pointer (some ⟨tb e.seq, 0, none⟩))).setCell ⟨tb e.seq, 2, none⟩ (.int .i64 i))
      lo hi bq tb n (.slice (some ⟨g, 0, none⟩) es.length cap) (es.set i e) F (upd ix e.seq i) ∧
    Mod lo hi w ((((w.setCell ⟨g, i * 3, none⟩ (.int .i64 e.at_)).setCell ⟨g, i * 3 + 1, none⟩ (.int .u64 e.seq)).setCell ⟨g, i * 3 + 2, none⟩ (.pointer (some ⟨tb e.seq, 0, none⟩))).setCell ⟨tb e.seq, 2, none⟩ (.int .i64 i)) := by
  have hgb : (Value.slice (some ⟨g, 0, none⟩) es.length cap).ownBlock = some g := rfl
  have nb : bq ≠ g := fun e => h.bq_ne_row (by rw [e]; rfl)
  have nt : ∀ s, n s → tb s ≠ g := fun s hs e => h.tb_ne_row hs (by rw [e]; rfl)
  have nbt : bq ≠ tb e.seq := fun x => h.tb_ne_bq hs x.symm
  have other : ∀ k, k ≠ g → k ≠ tb e.seq → ((((w.setCell ⟨g, i * 3, none⟩ (.int .i64 e.at_)).setCell ⟨g, i * 3 + 1, none⟩ (.int .u64 e.seq)).setCell ⟨g, i * 3 + 2, none⟩ (.pointer (some ⟨tb e.seq, 0, none⟩))).setCell ⟨tb e.seq, 2, none⟩ (.int .i64 i)).heap[k]? = w.heap[k]? := fun k h1 h2 => by
    rw [Below.heap_setCell _ _ _ _ h2, Below.heap_setCell _ _ _ _ h1, Below.heap_setCell _ _ _ _ h1, Below.heap_setCell _ _ _ _ h1]
  have hglo : lo ≤ g := (h.row.lt g hgb).1
  have hghi : g < hi := h.rowr g hgb
  refine ⟨⟨?_, ?_, fun s hs' => ?_, h.bqr, h.tbr, h.rowr, h.inj, fun x hx => ?_⟩, ?_⟩
  · rw [other bq nb nbt]; exact h.queue
  · have r1 := (((h.row.stored (i * 3) (.int .i64 e.at_)).1.stored (i * 3 + 1) (.int .u64 e.seq)).1.stored (i * 3 + 2) (.pointer (some ⟨tb e.seq, 0, none⟩))).1
    rw [flat_set tb e es i hi'] at r1
    have r2 := ownsRow_setCell_other r1 (a := ⟨tb e.seq, 2, none⟩) (fun x => nt e.seq hs (by simpa [Value.ownBlock] using x.symm)) (.int .i64 i)
    simpa using r2
  · by_cases hse : s = e.seq
    · subst hse
      have h0 := h.tim e.seq hs
      have h3 : (((w.setCell ⟨g, i * 3, none⟩ (.int .i64 e.at_)).setCell ⟨g, i * 3 + 1, none⟩ (.int .u64 e.seq)).setCell ⟨g, i * 3 + 2, none⟩ (.pointer (some ⟨tb e.seq, 0, none⟩))).heap[tb e.seq]? = w.heap[tb e.seq]? := by
        rw [Below.heap_setCell _ _ _ _ (nt _ hs), Below.heap_setCell _ _ _ _ (nt _ hs), Below.heap_setCell _ _ _ _ (nt _ hs)]
      rw [set_same (h3.trans h0)]
      simp [upd]
    · rw [other (tb s) (nt s hs') (fun x => hse (h.inj s e.seq hs' hs x)), h.tim s hs']
      simp [upd, hse]
  · rcases List.mem_or_eq_of_mem_set hx with hx | rfl
    · exact h.seqs x hx
    · exact hs
  · obtain ⟨cur, c0⟩ := h.row_block hgb
    have c1 := set_same c0 (i * 3) (.int .i64 e.at_)
    have c2 := set_same c1 (i * 3 + 1) (.int .u64 e.seq)
    have c3 : (((w.setCell ⟨g, i * 3, none⟩ (.int .i64 e.at_)).setCell ⟨g, i * 3 + 1, none⟩ (.int .u64 e.seq)).setCell ⟨g, i * 3 + 2, none⟩ (.pointer (some ⟨tb e.seq, 0, none⟩))).heap[tb e.seq]? = w.heap[tb e.seq]? := by
      rw [Below.heap_setCell _ _ _ _ (nt _ hs), Below.heap_setCell _ _ _ _ (nt _ hs), Below.heap_setCell _ _ _ _ (nt _ hs)]
    exact (((((Mod.refl lo hi w).setCell hglo hghi _ c0 (by simp)).setCell hglo hghi _ c1 (by simp)).setCell hglo hghi _ c2 (by simp)).setCell (h.tbr _ hs).1 (h.tbr _ hs).2 _ (c3.trans (h.tim _ hs)) (by simp))

set_option maxHeartbeats 1000000 in
set_option maxRecDepth 20000 in
theorem place_any (h : QS w lo hi bq tb n v es F ix) (i : Nat) (hi' : i < es.length) (e : Ent) (hs : n e.seq) (hhi : hi ≤ w.heap.size) :
    Calls Try.prog 32 #[v, .int .i64 i, entV tb e] w fun r w' => r = .returned (.tuple #[]) ∧ QS w' lo hi bq tb n v (es.set i e) F (upd ix e.seq i) ∧ Mod lo hi w w' := by
  obtain ⟨w1, hw1⟩ : ∃ w1, w1 = w.alloc (.cells #[.int .i64 e.at_, .int .u64 e.seq, .pointer (some ⟨tb e.seq, 0, none⟩)] 55) := ⟨_, rfl⟩
  have hb1 : Below w.heap.size w w1 := by rw [hw1]; exact (Below.refl _ _).alloc (Nat.le_refl _) _
  have h1 := h.later hb1
  have H1 : Hid (QS w1 lo hi bq tb n v es F ix) := h1
  obtain ⟨g, cap, hv⟩ : ∃ g cap, v = .slice (some ⟨g, 0, none⟩) es.length cap := by
    rcases h.row.2 with ⟨_, h2⟩ | ⟨g, cap, cur, h2, _⟩
    · omega
    · exact ⟨g, cap, h2⟩
  have hrow := h1.row
  rw [hv] at hrow
  have hne := h1.tb_ne_row hs
  rw [hv] at hne
  have c0 := hrow.cellAt (i * 3) (by omega)
  have c1 := hrow.cellAt (i * 3 + 1) (by omega)
  have c2 := hrow.cellAt (i * 3 + 2) (by omega)
  have f0 := hrow.frozenAt (i * 3)
  have f1 := hrow.frozenAt (i * 3 + 1)
  have f2 := hrow.frozenAt (i * 3 + 2)
  rw [show i * 3 = i * 3 + 0 by omega, flat_get tb es i hi' 0 (by omega), Nat.add_zero] at c0
  rw [flat_get tb es i hi' 1 (by omega)] at c1
  rw [flat_get tb es i hi' 2 (by omega)] at c2
  simp only [ecells, List.getElem?_cons_zero, List.getElem?_cons_succ] at c0 c1 c2
  have t2 : w1.cell? ⟨tb e.seq, 2, none⟩ = some (.int .i64 (ix e.seq)) := cell_of (h1.tim _ hs) 2 _ rfl
  have tf2 := free_of (h1.tim _ hs) 2
  have b0 : w1.cell? ⟨w.heap.size, 0, none⟩ = some (.int .i64 e.at_) := by rw [hw1]; go_simp
  have b1 : w1.cell? ⟨w.heap.size, 1, none⟩ = some (.int .u64 e.seq) := by rw [hw1]; go_simp
  have b2 : w1.cell? ⟨w.heap.size, 2, none⟩ = some (.pointer (some ⟨tb e.seq, 0, none⟩)) := by rw [hw1]; go_simp
  have n1 : g ≠ tb e.seq := fun e => hne (by rw [← e]; rfl)
  have n2 : tb e.seq ≠ g := fun e => n1 e.symm
  have hg := h.rowr g (by rw [hv]; rfl)
  have n3 : g ≠ w.heap.size := by omega
  have n4 : w.heap.size ≠ g := by omega
  have H : Hid (QS w lo hi bq tb n v es F ix) := h
  have HB : Hid (Below w.heap.size w w1) := hb1
  have HR : Hid (w1.ownsRow lo 55 3 (.slice (some ⟨g, 0, none⟩) es.length cap) es.length (es.flatMap (ecells tb))) := hrow
  subst hv
  have hcap : es.length ≤ cap := by
    rcases hrow.2 with ⟨h', _⟩ | ⟨g', cap', cur, h', _, _, hnc, _⟩
    · cases h'
    · simp at h'; omega
  have hcm : cap ≤ maxLen := by
    rcases hrow.2 with ⟨h', _⟩ | ⟨g', cap', cur, h', _, _, _, hm, _⟩
    · cases h'
    · simp at h'; omega
  unfold maxLen at hcm
  clear h h1 hb1 hrow hne
  unfold entV
  go_enter Try.func32, Try.ntmps32
  go_upto_region 1 with fail
  rw [← hw1]
  clear hw1
  go_wp2
  go_end0
  obtain ⟨r1, r2⟩ := H1.out.placed i hi' e hs
  exact ⟨rfl, r1, (Mod.of_below HB.out).trans r2⟩
end
end Go.Proofs.Qxb6616716a
