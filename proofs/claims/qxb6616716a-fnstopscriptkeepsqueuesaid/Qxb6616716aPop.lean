import Derived.Test.Qxb6616716aPush2
import Derived.Deep.RegionWith
namespace Go.Proofs.Qxb6616716a
open Go.RowKit

section
variable {w : World} {lo hi bq : Nat} {tb : Nat → Nat} {n : Nat → Prop} {v : Value} {es : List Ent} {F : Nat → Bool} {ix : Nat → Int}

def RmHQ (w : World) (lo hi bq : Nat) (tb : Nat → Nat) (n : Nat → Prop) (es : List Ent) (i : Nat) (F : Nat → Bool) (ix : Nat → Int) (w' : World) : Prop :=
  ∃ es' ix', HQ w' lo hi bq tb n es' F ix' ∧ es'.Perm (es.eraseIdx i) ∧ ix' (E es i).seq = -1 ∧ (∀ s, (∀ x ∈ es, x.seq ≠ s) → ix' s = ix s) ∧ Mod lo hi w w'
theorem HQ.later {w' : World} (h : HQ w lo hi bq tb n es F ix) (hb : Below w.heap.size w w') : HQ w' lo hi bq tb n es F ix := by
  obtain ⟨v, hq⟩ := h.qs
  exact ⟨⟨v, hq.later hb⟩, h.ixok, h.heap⟩
theorem HQ.mod {w' : World} {lo' hi' : Nat} (h : HQ w lo hi bq tb n es F ix) (hm : Mod lo' hi' w w') (hd : hi ≤ lo' ∨ hi' ≤ lo) : HQ w' lo hi bq tb n es F ix := by
  obtain ⟨v, hq⟩ := h.qs
  exact ⟨⟨v, hq.mod hm hd⟩, h.ixok, h.heap⟩
theorem RmPost.toHQ {w1 w' : World} {i : Nat} (h : RmPost w lo hi bq tb n es i F ix w1) (hb : Below w1.heap.size w1 w') : RmHQ w lo hi bq tb n es i F ix w' := by
  obtain ⟨v, es', ix', hI, hm⟩ := h
  exact ⟨es', ix', ⟨⟨v, hI.qs.later hb⟩, hI.ixok, hI.heap⟩, hI.perm, hm, hI.frame, hI.mod.trans (Mod.of_below hb)⟩

set_option maxHeartbeats 2000000 in
set_option maxRecDepth 20000 in
theorem pop_any (h : HQ w lo hi bq tb n es F ix) (h0 : 0 < es.length) (hhi : hi ≤ w.heap.size) (hsm : es.length ≤ 65536) :
    Calls Try.prog 19 #[.pointer (some ⟨bq, 0, none⟩)] w fun r w' => r = .returned (ent3 tb (E es 0)) ∧ RmHQ w lo hi bq tb n es 0 F ix w' := by
  obtain ⟨v, hq⟩ := h.qs
  have HC : Hid (Calls Try.prog 25 #[.pointer (some ⟨bq, 2, none⟩), .int .i64 0] w fun r w' => r = .returned (entV tb (E es 0)) ∧ RmPost w lo hi bq tb n es 0 F ix w') := remove_any hq 0 h0 hhi h.ixok h.heap hsm
  clear h hq
  unfold ent3
  unfold entV at HC
  go_enter Try.func19, Try.ntmps19
  go_wp2_with fail
  refine HC.out.mono ?_
  rintro r w1 ⟨rfl, hp⟩
  replace hp : Hid (RmPost w lo hi bq tb n es 0 F ix w1) := hp
  obtain ⟨w2, hw2⟩ : ∃ w2, w2 = w1.alloc (.cells #[.int .i64 (E es 0).at_, .int .u64 (E es 0).seq, .pointer (some ⟨tb (E es 0).seq, 0, none⟩)] 55) := ⟨_, rfl⟩
  have hb2 : Hid (Below w1.heap.size w1 w2) := by rw [hw2]; exact (Below.refl _ _).alloc (Nat.le_refl _) _
  have hc1 : w2.heap[w1.heap.size]? = some (.cells #[.int .i64 (E es 0).at_, .int .u64 (E es 0).seq, .pointer (some ⟨tb (E es 0).seq, 0, none⟩)] 55 (0, 0)) := by rw [hw2]; exact heap_alloc_new w1 _
  have b0 := cell_of hc1 0 _ rfl
  have b1 := cell_of hc1 1 _ rfl
  have b2 := cell_of hc1 2 _ rfl
  clear hc1
  go_upto_region 2 with fail
  rw [← hw2]
  clear hw2
  go_quiet (fail)
  have hbq := hb2.out.trans (below_drewN (Below.refl _ _) nq)
  generalize w2.drewN nq = wq at hbq ⊢
  have HF : Hid (RmHQ w lo hi bq tb n es 0 F ix wq) := hp.out.toHQ hbq
  clear hbq
  go_wp2_with fail
  go_ret3
  exact ⟨rfl, HF.out⟩

def StopHQ (w : World) (lo hi bq : Nat) (tb : Nat → Nat) (n : Nat → Prop) (es : List Ent) (i s : Nat) (F : Nat → Bool) (ix : Nat → Int) (w' : World) : Prop :=
  ∃ es' ix', HQ w' lo hi bq tb n es' (updF F s false) ix' ∧ es'.Perm (es.eraseIdx i) ∧ ix' s = -1 ∧ (∀ s, (∀ x ∈ es, x.seq ≠ s) → ix' s = ix s) ∧ Mod lo hi w w'

set_option maxHeartbeats 2000000 in
set_option maxRecDepth 20000 in
theorem stop_out (h : HQ w lo hi bq tb n es F ix) (s : Nat) (hs : n s) (hx : ix s = -1) : Calls Try.prog 11 #[.pointer (some ⟨tb s, 0, none⟩)] w fun r w' => r = .returned (.tuple #[]) ∧ w' = w := by
  obtain ⟨v, hq⟩ := h.qs
  have c2 : w.cell? ⟨tb s, 2, none⟩ = some (.int .i64 (-1)) := by rw [← hx]; exact cell_of (hq.tim s hs) 2 _ rfl
  clear h hq
  go_enter Try.func11, Try.ntmps11
  go_wp2_with fail
  go_end0
  exact ⟨rfl, rfl⟩

set_option maxHeartbeats 2000000 in
set_option maxRecDepth 20000 in
theorem stop_in (h : HQ w lo hi bq tb n es F ix) (i : Nat) (hi' : i < es.length) (s : Nat) (hs : n s) (he : (E es i).seq = s) (hhi : hi ≤ w.heap.size) (hsm : es.length ≤ 65536) :
    Calls Try.prog 11 #[.pointer (some ⟨tb s, 0, none⟩)] w fun r w' => r = .returned (.tuple #[]) ∧ StopHQ w lo hi bq tb n es i s F ix w' := by
  obtain ⟨v, hq⟩ := h.qs
  have hix : ix s = i := by rw [← he]; exact h.ixok i hi'
  have HC : Hid (∀ w1, Below w.heap.size w w1 → Calls Try.prog 25 #[.pointer (some ⟨bq, 2, none⟩), .int .i64 i] w1 fun r w' => r = .returned (entV tb (E es i)) ∧ RmPost w1 lo hi bq tb n es i F ix w') := fun w1 hb => remove_any (hq.later hb) i hi' (Nat.le_trans hhi hb.size) h.ixok h.heap hsm
  have c2 : w.cell? ⟨tb s, 2, none⟩ = some (.int .i64 i) := by rw [← hix]; exact cell_of (hq.tim s hs) 2 _ rfl
  have c0 : w.cell? ⟨tb s, 0, none⟩ = some (.pointer (some ⟨bq, 0, none⟩)) := cell_of (hq.tim s hs) 0 _ rfl
  clear h hq
  go_enter Try.func11, Try.ntmps11
  go_wp2_with fail
  go_region_with (go_at_call 25; refine (HC.out w.drew (Below.drew (Below.refl _ _))).mono ?_; rintro r w1 ⟨rfl, v1, es1, ix1, hI, hm⟩; have HI : Hid (RmI w.drew w1 lo hi bq tb n v1 es i F ix es1 ix1) := hI; have d1 : w1.cell? ⟨tb s, 1, none⟩ = some (fv (F s)) := cell_of (hI.qs.tim s hs) 1 _ rfl; have f1 := free_of (hI.qs.tim s hs) 1; clear hI)
  all_goals
    have HF : Hid (StopHQ w lo hi bq tb n es i s F ix (w1.setCell ⟨tb s, 1, none⟩ .nilFunc)) := by
      obtain ⟨q1, m1⟩ := HI.out.qs.setF hs
      exact ⟨es1, ix1, ⟨⟨v1, q1⟩, HI.out.ixok, HI.out.heap⟩, HI.out.perm, by rw [← he]; exact hm, HI.out.frame, ((Mod.of_below (Below.drew (Below.refl _ _))).trans HI.out.mod).trans m1⟩
    clear HI hm
    go_wp2_with fail
    go_end0
    exact ⟨rfl, HF.out⟩
end
end Go.Proofs.Qxb6616716a
