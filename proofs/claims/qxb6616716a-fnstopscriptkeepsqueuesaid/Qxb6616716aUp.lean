import Derived.Test.Qxb6616716aUpLaw
import Derived.Deep.Cut
import Derived.Deep.DrawnRows
import Derived.Deep.RegionHeld3
namespace Go.Proofs.Qxb6616716a
open Go.RowKit

structure UpI (w wr : World) (lo hi bq : Nat) (tb : Nat → Nat) (n : Nat → Prop) (v : Value) (es : List Ent) (i : Nat) (e : Ent) (F : Nat → Bool) (ix : Nat → Int) (k : Nat) (es' : List Ent) (ix' : Nat → Int) : Prop where
  qs : QS wr lo hi bq tb n v es' F ix'
  len : es'.length = es.length
  hole : HoleIx es' ix' k e
  ok : UpOk es' k e
  perm : (es'.set k e).Perm (es.set i e)
  frame : ∀ s, (∀ x ∈ es.set i e, x.seq ≠ s) → ix' s = ix s
  mod : Mod lo hi w wr
  box : wr.heap[w.heap.size]? = some (.cells #[.int .i64 e.at_, .int .u64 e.seq, .pointer (some ⟨tb e.seq, 0, none⟩)] 55 (0, 0))

def UpPost (w : World) (lo hi bq : Nat) (tb : Nat → Nat) (n : Nat → Prop) (v : Value) (es : List Ent) (i : Nat) (e : Ent) (F : Nat → Bool) (ix : Nat → Int) (r : Ending) (w' : World) : Prop :=
  r = .returned (.tuple #[]) ∧ ∃ es' ix', QS w' lo hi bq tb n v es' F ix' ∧ es'.Perm (es.set i e) ∧ IxOk es' ix' ∧ IsHeap es' ∧ (∀ s, (∀ x ∈ es.set i e, x.seq ≠ s) → ix' s = ix s) ∧ Mod lo hi w w'

section
variable {w : World} {lo hi bq : Nat} {tb : Nat → Nat} {n : Nat → Prop} {es : List Ent} {F : Nat → Bool} {ix : Nat → Int}

theorem QS.entry {v : Value} (h : QS w lo hi bq tb n v es F ix) {g len cap : Nat} (hv : v = .slice (some ⟨g, 0, none⟩) len cap) {j : Nat} (hj : j < es.length) :
    len = es.length ∧ w.cell? ⟨g, j * 3, none⟩ = some (.int .i64 (E es j).at_) ∧ w.cell? ⟨g, j * 3 + 1, none⟩ = some (.int .u64 (E es j).seq) ∧ w.cell? ⟨g, j * 3 + 2, none⟩ = some (.pointer (some ⟨tb (E es j).seq, 0, none⟩)) := by
  have hrow := h.row
  have hlen : len = es.length := by
    rcases hrow.2 with ⟨_, h2⟩ | ⟨g', cap', cur, h2, _⟩
    · omega
    · rw [hv] at h2; simp at h2; omega
  subst hlen
  rw [hv] at hrow
  have c0 := hrow.cellAt (j * 3) (by omega)
  have c1 := hrow.cellAt (j * 3 + 1) (by omega)
  have c2 := hrow.cellAt (j * 3 + 2) (by omega)
  rw [show j * 3 = j * 3 + 0 by omega, flat_get tb es j hj 0 (by omega), Nat.add_zero] at c0
  rw [flat_get tb es j hj 1 (by omega)] at c1
  rw [flat_get tb es j hj 2 (by omega)] at c2
  rw [E_get hj]
  simp only [ecells, List.getElem?_cons_zero, List.getElem?_cons_succ] at c0 c1 c2
  exact ⟨rfl, c0, c1, c2⟩

theorem UpI.move {wr w' : World} {v : Value} {i k : Nat} {e : Ent} {es' : List Ent} {ix' : Nat → Int} (h : UpI w wr lo hi bq tb n v es i e F ix k es' ix') (hk : k < es.length) (h0 : 0 < k) (hlt : e.lt (E es' (par k)) = true) (hhi : hi ≤ w.heap.size)
    (hq : QS w' lo hi bq tb n v (es'.set k (E es' (par k))) F (upd ix' (E es' (par k)).seq k)) (hm : Mod lo hi wr w') :
    UpI w w' lo hi bq tb n v es i e F ix (par k) (es'.set k (E es' (par k))) (upd ix' (E es' (par k)).seq k) := by
  have hp : par k < k := by unfold par; omega
  have hl := h.len
  have hperm := (hole_perm (es := es') (i := k) (p := par k) (by omega) (by omega) (by omega) e).trans h.perm
  refine ⟨hq, by simpa using hl, h.hole.up (by omega) h0, h.ok.up (by omega) h0 hlt, hperm, fun s hs => ?_, h.mod.trans hm, ?_⟩
  · unfold upd
    rw [if_neg ?_]
    · exact h.frame s hs
    · intro x
      refine hs (E es' (par k)) (h.perm.subset ?_) x.symm
      rw [E_get (by omega)]
      exact List.mem_iff_getElem.2 ⟨par k, by simp; omega, by rw [List.getElem_set_ne (by omega)]⟩
  · have hlt2 : w.heap.size < wr.heap.size := (Array.getElem?_eq_some_iff.1 h.box).1
    rw [hm.block _ hlt2 (Or.inr hhi)]
    exact h.box

theorem UpI.later {wr w' : World} {v : Value} {i k : Nat} {e : Ent} {es' : List Ent} {ix' : Nat → Int} (h : UpI w wr lo hi bq tb n v es i e F ix k es' ix') (hb : Below wr.heap.size wr w') : UpI w w' lo hi bq tb n v es i e F ix k es' ix' :=
  ⟨h.qs.later hb, h.len, h.hole, h.ok, h.perm, h.frame, h.mod.trans (Mod.of_below hb), by rw [hb.block _ (Array.getElem?_eq_some_iff.1 h.box).1]; exact h.box⟩

theorem UpI.finish {wr w' : World} {v : Value} {i k : Nat} {e : Ent} {es' : List Ent} {ix' : Nat → Int} (h : UpI w wr lo hi bq tb n v es i e F ix k es' ix') (hi' : i < es.length) (hk : k < es.length) (hd : 0 < k → e.lt (E es' (par k)) = false)
    (hq : QS w' lo hi bq tb n v (es'.set k e) F (upd ix' e.seq k)) (hm : Mod lo hi wr w') : UpPost w lo hi bq tb n v es i e F ix (.returned (.tuple #[])) w' := by
  have hl := h.len
  refine ⟨rfl, _, _, hq, h.perm, h.hole.done (by omega), h.ok.done (by omega) hd, fun s hs => ?_, h.mod.trans hm⟩
  unfold upd
  rw [if_neg ?_]
  · exact h.frame s hs
  · intro x
    exact hs e (List.mem_iff_getElem.2 ⟨i, by simpa using hi', by simp⟩) x.symm

theorem par_quo (k : Nat) (h : 0 < k) : ((k : Int) - 1).tdiv 2 = ((par k : Nat) : Int) := by
  rw [Int.tdiv_eq_ediv_of_nonneg (by omega)]
  unfold par
  omega

set_option maxHeartbeats 4000000 in
set_option maxRecDepth 20000 in
theorem up_any {v : Value} (h : QS w lo hi bq tb n v es F ix) (i : Nat) (hi' : i < es.length) (e : Ent) (hs : n e.seq) (hhi : hi ≤ w.heap.size) (hx : HoleIx es ix i e) (hu : UpOk es i e) :
    Calls Try.prog 28 #[v, .int .i64 i, entV tb e] w fun r w' => UpPost w lo hi bq tb n v es i e F ix r w' := by
  obtain ⟨w1, hw1⟩ : ∃ w1, w1 = w.alloc (.cells #[.int .i64 e.at_, .int .u64 e.seq, .pointer (some ⟨tb e.seq, 0, none⟩)] 55) := ⟨_, rfl⟩
  have hb1 : Below w.heap.size w w1 := by rw [hw1]; exact (Below.refl _ _).alloc (Nat.le_refl _) _
  have HI : Hid (UpI w w1 lo hi bq tb n v es i e F ix i es ix) := ⟨h.later hb1, rfl, hx, hu, List.Perm.refl _, fun _ _ => rfl, Mod.of_below hb1, by rw [hw1]; exact heap_alloc_new w _⟩
  obtain ⟨g, cap, hv⟩ : ∃ g cap, v = .slice (some ⟨g, 0, none⟩) es.length cap := by
    rcases h.row.2 with ⟨_, h2⟩ | ⟨g, cap, cur, h2, _⟩
    · omega
    · exact ⟨g, cap, h2⟩
  have hcap : es.length ≤ cap ∧ cap ≤ maxLen := by
    rcases h.row.2 with ⟨h', _⟩ | ⟨g', cap', cur, h', _, _, hnc, hm, _⟩
    · rw [hv] at h'; cases h'
    · rw [hv] at h'; simp at h'; omega
  obtain ⟨hcap, hcm⟩ := hcap
  unfold maxLen at hcm
  subst hv
  clear h hx hu hb1
  unfold entV
  go_enter Try.func28, Try.ntmps28
  go_upto_region 1 with fail
  rw [← hw1]
  clear hw1
  go_loopw [1] (fun j wr => ∃ (k : Nat) (es' : List Ent) (ix' : Nat → Int), j = .int .i64 k ∧ k < es.length ∧ Hid (UpI w wr lo hi bq tb n (.slice (some ⟨g, 0, none⟩) es.length cap) es i e F ix k es' ix')) (fun j _ => (intOf j).toNat)
  case atStart => exact ⟨i, es, ix, rfl, hi', HI⟩
  case round =>
    obtain ⟨k, es', ix', rfl, hk, hI⟩ := hrel
    have hlen := hI.out.len
    have b0 : wr.cell? ⟨w.heap.size, 0, none⟩ = some (.int .i64 e.at_) := cell_of hI.out.box 0 _ rfl
    have b1 : wr.cell? ⟨w.heap.size, 1, none⟩ = some (.int .u64 e.seq) := cell_of hI.out.box 1 _ rfl
    have b2 : wr.cell? ⟨w.heap.size, 2, none⟩ = some (.pointer (some ⟨tb e.seq, 0, none⟩)) := cell_of hI.out.box 2 _ rfl
    by_cases h0 : 0 < k
    case neg =>
      obtain rfl : k = 0 := by omega
      go_wp2_with fail
      refine (place_any hI.out.qs 0 (by omega) e hs (Nat.le_trans hhi hI.out.mod.size)).mono ?_
      rintro r w2 ⟨rfl, hq2, hm2⟩
      have HF : Hid (UpPost w lo hi bq tb n (.slice (some ⟨g, 0, none⟩) es.length cap) es i e F ix (.returned (.tuple #[])) w2) := hI.out.finish hi' hk (fun h => by omega) hq2 hm2
      clear hq2 hm2
      go_wp2_with fail
      go_end0
      exact HF.out
    have hp : par k < k := by unfold par; omega
    have hq := par_quo k h0
    obtain ⟨hlen2, x0, x1, x2⟩ := hI.out.qs.entry rfl (j := par k) (by omega)
    clear hlen2
    have hps : n (E es' (par k)).seq := by
      rw [E_get (by omega)]
      exact hI.out.qs.seqs _ (List.getElem_mem _)
    go_wp2_with fail
    have hpb : par k < es.length := by omega
    have HLN : Hid (es'.length = es.length) := hlen
    clear hq hlen hp
    go_region_held3 (fun w' => w'.cell? ⟨w.heap.size, 0, none⟩ = some (.int .i64 e.at_) ∧ w'.cell? ⟨w.heap.size, 1, none⟩ = some (.int .u64 e.seq) ∧ w'.cell? ⟨w.heap.size, 2, none⟩ = some (.pointer (some ⟨tb e.seq, 0, none⟩)) ∧ w'.cell? ⟨g, par k * 3, none⟩ = some (.int .i64 (E es' (par k)).at_) ∧ w'.cell? ⟨g, par k * 3 + 1, none⟩ = some (.int .u64 (E es' (par k)).seq) ∧ w'.cell? ⟨g, par k * 3 + 2, none⟩ = some (.pointer (some ⟨tb (E es' (par k)).seq, 0, none⟩))) (go_keep)
      (first | (go_at_call 31; refine (before_any _ tb e (E es' (par k))).mono ?_; rintro r w2 ⟨rfl, hb2'⟩; have hb2 : Below wr.heap.size wr w2 := Below.trans ((Below.refl _ _).drew) (hb2'.mono (by simp)); have y0 := (hb2.cell (World.block_lt_of_cell? wr _ x0)).trans x0; have y1 := (hb2.cell (World.block_lt_of_cell? wr _ x1)).trans x1; have y2 := (hb2.cell (World.block_lt_of_cell? wr _ x2)).trans x2; have z0 := (hb2.cell (World.block_lt_of_cell? wr _ b0)).trans b0; have z1 := (hb2.cell (World.block_lt_of_cell? wr _ b1)).trans b1; have z2 := (hb2.cell (World.block_lt_of_cell? wr _ b2)).trans b2; replace hb2 : Hid (Below wr.heap.size wr w2) := hb2; clear hb2'))
    have HI2 : Hid (UpI w w2 lo hi bq tb n (.slice (some ⟨g, 0, none⟩) es.length cap) es i e F ix k es' ix') := hI.out.later hb2.out
    clear hb2 hI x0 x1 x2 b0 b1 b2
    cases hlt : e.lt (E es' (par k))
    · go_wp2_with fail
      refine (place_any HI2.out.qs k (by have := HLN.out; omega) e hs (Nat.le_trans hhi HI2.out.mod.size)).mono ?_
      rintro r w3 ⟨rfl, hq3, hm3⟩
      have HF : Hid (UpPost w lo hi bq tb n (.slice (some ⟨g, 0, none⟩) es.length cap) es i e F ix (.returned (.tuple #[])) w3) := HI2.out.finish hi' hk (fun _ => hlt) hq3 hm3
      clear hq3 hm3
      go_wp2_with fail
      go_end0
      exact HF.out
    · go_wp2_with fail
      refine (place_any HI2.out.qs k (by have := HLN.out; omega) (E es' (par k)) hps (Nat.le_trans hhi HI2.out.mod.size)).mono ?_
      rintro r w3 ⟨rfl, hq3, hm3⟩
      have HF : Hid (UpI w w3 lo hi bq tb n (.slice (some ⟨g, 0, none⟩) es.length cap) es i e F ix (par k) (es'.set k (E es' (par k))) (upd ix' (E es' (par k)).seq k)) := HI2.out.move hk h0 hlt hhi hq3 hm3
      clear hq3 hm3
      go_wp2_with fail
      go_roundw
      case rel => exact ⟨par k, _, _, rfl, hpb, HF⟩
      case measure => simp [intOf]; unfold par; omega
end
end Go.Proofs.Qxb6616716a
