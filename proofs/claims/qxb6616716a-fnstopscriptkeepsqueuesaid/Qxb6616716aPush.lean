import Derived.Test.Qxb6616716aShims
import Derived.OwnWalk
namespace Go.Proofs.Qxb6616716a
open Go.RowKit
theorem info55 : (Try.prog.info? 55).map (fun i => (i.zero, i.size, i.bytes)) = some (some (.agg #[.int .i64 0, .int .u64 0, .pointer none]), 3, 24) := by kernel_rfl

section
variable {w : World} {lo hi bq : Nat} {tb : Nat → Nat} {n : Nat → Prop} {v : Value} {es : List Ent} {F : Nat → Bool} {ix : Nat → Int}

/-- AT THE OPERATION: 'append(q.timers, heapEntry{..})' -/
theorem wpList_ent {ops : Array Oper} {rest : List Oper} {o : Oper} {a : Act} {Q : Exit → Act → World → Prop} (hgd : o.guard = none) (s x : Operand)
    (ho : o.op = .call { callee := .builtin .append, args := #[s, x], argTypes := #[48, 48] }) (w : World) (tb : Nat → Nat) (es : List Ent) (v : Value)
    (hown : w.ownsRow lo 55 3 v es.length (es.flatMap (ecells tb))) (hB : lo ≤ w.heap.size) (hn : es.length ≤ 65536) (e : Ent)
    (H : Nat) (hH : H = w.heap.size) (hs : a.eval s = v) (hx : a.eval x = .slice (some ⟨H, 0, none⟩) 1 1)
    (h : ∀ g cap w', w'.ownsRow lo 55 3 (.slice (some ⟨g, 0, none⟩) (es.length + 1) cap) (es.length + 1) ((es ++ [e]).flatMap (ecells tb)) → w.grownBy w' v.ownBlock → g < w'.heap.size →
      wpList Try.prog ops Q rest (a.put o.dst (.slice (some ⟨g, 0, none⟩) (es.length + 1) cap)) w') :
    wpList Try.prog ops Q (o :: rest) a (w.alloc (.cells #[.int .i64 e.at_, .int .u64 e.seq, .pointer (some ⟨tb e.seq, 0, none⟩)] 55)) := by
  obtain ⟨i0, hi, hz0, hz1, hz2⟩ := info_parts info55
  subst hH
  refine wpList_append_lies _ hgd s x 48 ho lo 55 i0 _ 3 24 Try.underlying48 hi hz0 hz1 hz2 rfl (by omega) v es.length _ hs (World.ownsRow.alloc hown _) ⟨w.heap.size, 0, none⟩ 1 1 (ecells tb e) hx rfl (World.news_of_block (heap_alloc_new w _)) ?_ (by omega) ?_ ?_ ?_ _ rfl ?_
  · intro u hu
    simp [ecells] at hu
    rcases hu with rfl | rfl | rfl <;> rfl
  · unfold maxLen; omega
  · omega
  · simp; omega
  · intro g cap w' hown' hgrow hat hlt
    refine h g cap w' ?_ ?_ hlt
    · rw [List.flatMap_append]
      simpa using hown'
    · refine ⟨hgrow.os, hgrow.tape, hgrow.output, by have := hgrow.size; simp at this; omega, fun k hk hne => ?_⟩
      rw [hgrow.block k (by simp; omega) hne, Below.heap_alloc _ _ _ hk]

theorem QS.widen {hi' : Nat} (h : QS w lo hi bq tb n v es F ix) (hh : hi ≤ hi') : QS w lo hi' bq tb n v es F ix :=
  ⟨h.queue, h.row, h.tim, ⟨h.bqr.1, by have := h.bqr.2; omega⟩, fun s hs => ⟨(h.tbr s hs).1, by have := (h.tbr s hs).2; omega⟩, fun k hk => by have := h.rowr k hk; omega, h.inj, h.seqs⟩

theorem QS.appended {g cap : Nat} {w' : World} {e : Ent} (h : QS w lo w.heap.size bq tb n v es F ix) (hs : n e.seq) (hrow : w'.ownsRow lo 55 3 (.slice (some ⟨g, 0, none⟩) (es.length + 1) cap) (es.length + 1) ((es ++ [e]).flatMap (ecells tb))) (hg : w.grownBy w' v.ownBlock) (hlt : g < w'.heap.size) :
    QS (w'.setCell ⟨bq, 2, none⟩ (.slice (some ⟨g, 0, none⟩) (es.length + 1) cap)) lo (w'.setCell ⟨bq, 2, none⟩ (.slice (some ⟨g, 0, none⟩) (es.length + 1) cap)).heap.size bq tb n (.slice (some ⟨g, 0, none⟩) (es.length + 1) cap) (es ++ [e]) F ix ∧
    Mod lo w.heap.size w (w'.setCell ⟨bq, 2, none⟩ (.slice (some ⟨g, 0, none⟩) (es.length + 1) cap)) := by
  have hlo : lo ≤ w.heap.size := by have := h.bqr; omega
  have hsz := hg.size
  have hq : w'.heap[bq]? = _ := (hg.block bq h.bqr.2 (fun x => h.bq_ne_row x.symm)).trans h.queue
  have ht : ∀ s, n s → w'.heap[tb s]? = _ := fun s hs => (hg.block (tb s) (h.tbr s hs).2 (fun x => h.tb_ne_row hs x.symm)).trans (h.tim s hs)
  have nbg : bq ≠ g := by
    rintro rfl
    rcases hrow.2 with ⟨x, _⟩ | ⟨g', cap', cur, x, _, y, _⟩
    · cases x
    · simp at x
      rw [← x.1, hq] at y
      simp at y
  refine ⟨⟨?_, ?_, fun s hs => ?_, ⟨h.bqr.1, ?_⟩, fun s hs => ⟨(h.tbr s hs).1, ?_⟩, fun k hk => ?_, h.inj, fun x hx => ?_⟩, ?_⟩
  · rw [set_same hq]; rfl
  · rw [List.length_append]
    exact ownsRow_setCell_other hrow (a := ⟨bq, 2, none⟩) (fun x => nbg (by simpa [Value.ownBlock] using x.symm)) _
  · rw [Below.heap_setCell _ _ _ _ (h.tb_ne_bq hs)]; exact ht s hs
  · have := h.bqr.2; simp; omega
  · have := (h.tbr s hs).2; simp; omega
  · simp [Value.ownBlock] at hk; subst hk; simpa using hlt
  · rcases List.mem_append.1 hx with hx | hx
    · exact h.seqs x hx
    · simp at hx; subst hx; exact hs
  · refine ⟨hg.os, hg.tape, hg.output, by simpa using hsz, fun k hk ho => ?_, fun k hk ho => ?_⟩
    · rw [Below.heap_setCell _ _ _ _ (by have := h.bqr.1; simp; omega)]
      exact hg.block k (by omega) (fun x => by have := (h.row.lt k x.symm).1; omega)
    · have hk1 : some k ≠ v.ownBlock := fun x => by
        obtain ⟨cur, hc⟩ := h.row_block x.symm
        exact (ho _ _ _ hc).2.2 rfl
      rw [Below.heap_setCell _ _ _ _ ?_]
      · exact hg.block k hk hk1
      · rintro rfl
        exact (ho _ _ _ h.queue).1 rfl

def AppPost (w : World) (lo bq : Nat) (tb : Nat → Nat) (n : Nat → Prop) (es : List Ent) (F : Nat → Bool) (ix : Nat → Int) (w' : World) : Prop :=
  ∃ v, QS w' lo w'.heap.size bq tb n v es F ix ∧ Mod lo w.heap.size w w'

set_option maxHeartbeats 2000000 in
set_option maxRecDepth 20000 in
theorem append_any (h : QS w lo w.heap.size bq tb n v es F ix) (e : Ent) (hs : n e.seq) (hn : es.length ≤ 65536) :
    Calls Try.prog 27 #[.pointer (some ⟨bq, 0, none⟩), .int .i64 e.at_, .int .u64 e.seq, .pointer (some ⟨tb e.seq, 0, none⟩)] w fun r w' => r = .returned (.tuple #[]) ∧ AppPost w lo bq tb n (es ++ [e]) F ix w' := by
  have q2 : w.cell? ⟨bq, 2, none⟩ = some v := cell_of h.queue 2 _ rfl
  have HQ : Hid (QS w lo w.heap.size bq tb n v es F ix) := h
  have HR : Hid (w.ownsRow lo 55 3 v es.length (es.flatMap (ecells tb))) := h.row
  have hlo : lo ≤ w.heap.size := by have := h.bqr; omega
  obtain ⟨o, cap, hv, _, _⟩ := h.slice
  subst hv
  clear h
  go_enter Try.func27, Try.ntmps27
  go_wp2_with (at_builtin; refine wpList_ent rfl _ _ rfl w tb es _ HR.out hlo hn e _ rfl rfl rfl ?_; intro g cap w' hrow hg hlt; have HA := HQ.out.appended hs hrow hg hlt; have c2 : w'.cell? ⟨bq, 2, none⟩ = _ := hg.cell q2 (fun x => HQ.out.bq_ne_row x.symm); have cf := free_of ((hg.block bq HQ.out.bqr.2 (fun x => HQ.out.bq_ne_row x.symm)).trans HQ.out.queue) 2; replace HA : Hid _ := HA; clear hrow hg hlt)
  go_end0
  exact ⟨rfl, _, HA.out⟩
end
end Go.Proofs.Qxb6616716a
