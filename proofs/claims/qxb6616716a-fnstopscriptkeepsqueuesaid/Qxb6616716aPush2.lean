import Derived.Test.Qxb6616716aPush
namespace Go.Proofs.Qxb6616716a
open Go.RowKit

def updT (tb : Nat → Nat) (s b : Nat) : Nat → Nat := fun k => if k = s then b else tb k
def addN (n : Nat → Prop) (s : Nat) : Nat → Prop := fun x => x = s ∨ n x

/-- a queue whose heap is in order -/
structure HQ (w : World) (lo hi bq : Nat) (tb : Nat → Nat) (n : Nat → Prop) (es : List Ent) (F : Nat → Bool) (ix : Nat → Int) : Prop where
  qs : ∃ v, QS w lo hi bq tb n v es F ix
  ixok : IxOk es ix
  heap : IsHeap es

section
variable {w : World} {lo hi bq : Nat} {tb : Nat → Nat} {n : Nat → Prop} {v : Value} {es : List Ent} {F : Nat → Bool} {ix : Nat → Int}

theorem flat_congr {tb tb' : Nat → Nat} : ∀ (es : List Ent), (∀ e ∈ es, tb' e.seq = tb e.seq) → es.flatMap (ecells tb') = es.flatMap (ecells tb)
  | [], _ => rfl
  | e :: r, h => by
    rw [List.flatMap_cons, List.flatMap_cons, flat_congr r (fun x hx => h x (List.mem_cons_of_mem _ hx))]
    unfold ecells
    rw [h e List.mem_cons_self]

theorem QS.newTimer (h : QS w lo w.heap.size bq tb n v es F ix) (s : Nat) (hs : ¬ n s) :
    QS (w.alloc (.cells (tcells bq) 53)) lo (w.alloc (.cells (tcells bq) 53)).heap.size bq (updT tb s w.heap.size) (addN n s) v es (updF F s true) (upd ix s 0) := by
  have hlo : lo ≤ w.heap.size := by have := h.bqr; omega
  have hne : ∀ x, n x → x ≠ s := fun x hx e => hs (e ▸ hx)
  refine ⟨?_, ?_, fun x hx => ?_, ⟨h.bqr.1, by have := h.bqr.2; simp; omega⟩, fun x hx => ?_, fun k hk => by have := h.rowr k hk; simp; omega, fun a b ha hb hab => ?_, fun e he => Or.inr (h.seqs e he)⟩
  · rw [Below.heap_alloc _ _ _ h.bqr.2]; exact h.queue
  · rw [flat_congr es (tb := tb) (fun e he => by unfold updT; rw [if_neg (hne _ (h.seqs e he))])]
    exact World.ownsRow.alloc h.row _
  · rcases hx with rfl | hx
    · simp only [updT, updF, upd, if_pos]
      rw [heap_alloc_new w _]
      simp [tcells, fv]
    · simp only [updT, updF, upd, if_neg (hne x hx)]
      rw [Below.heap_alloc _ _ _ (h.tbr x hx).2]
      exact h.tim x hx
  · rcases hx with rfl | hx
    · simp only [updT, if_pos]
      simp; omega
    · simp only [updT, if_neg (hne x hx)]
      have := h.tbr x hx
      simp; omega
  · rcases ha with rfl | ha <;> rcases hb with rfl | hb
    · rfl
    · simp only [updT, if_pos, if_neg (hne b hb)] at hab
      have := (h.tbr b hb).2
      omega
    · simp only [updT, if_pos, if_neg (hne a ha)] at hab
      have := (h.tbr a ha).2
      omega
    · simp only [updT, if_neg (hne a ha), if_neg (hne b hb)] at hab
      exact h.inj a b ha hb hab

theorem E_app {es : List Ent} {e : Ent} {j : Nat} (h : j < es.length) : E (es ++ [e]) j = E es j := by
  unfold E
  rw [List.getD_eq_getElem?_getD, List.getElem?_append_left h, ← List.getD_eq_getElem?_getD]
theorem set_app (es : List Ent) (e : Ent) : (es ++ [e]).set es.length e = es ++ [e] := by
  rw [List.set_append_right _ _ (Nat.le_refl _)]
  simp
theorem IxOk.app (h : IxOk es ix) {e : Ent} (hs : ∀ x ∈ es, x.seq ≠ e.seq) (z : Int) : HoleIx (es ++ [e]) (upd ix e.seq z) es.length e := by
  intro j hj hne
  simp at hj
  have hj' : j < es.length := by omega
  rw [E_app hj']
  have h1 := hs _ (E_mem hj')
  refine ⟨?_, h1⟩
  unfold upd
  rw [if_neg h1]
  exact h j hj'
theorem IsHeap.app (h : IsHeap es) {e : Ent} : UpOk (es ++ [e]) es.length e := by
  refine ⟨fun j h1 h2 h3 => ?_, fun j h1 h2 h3 h4 => ?_⟩
  · rw [set_app]
    simp at h2
    have hp : par j < j := by unfold par; omega
    rw [E_app (by omega), E_app (by omega)]
    exact h j h1 (by omega)
  · simp at h2
    unfold par at h3
    omega

set_option maxHeartbeats 2000000 in
set_option maxRecDepth 20000 in
theorem zzup_any (h : QS w lo hi bq tb n v es F ix) (i : Nat) (hi' : i < es.length) (e : Ent) (hs : n e.seq) (hhi : hi ≤ w.heap.size) (hx : HoleIx es ix i e) (hu : UpOk es i e) :
    Calls Try.prog 24 #[.pointer (some ⟨bq, 0, none⟩), .int .i64 i, .int .i64 e.at_, .int .u64 e.seq, .pointer (some ⟨tb e.seq, 0, none⟩)] w fun r w' => UpPost w lo hi bq tb n v es i e F ix r w' := by
  have q2 : w.cell? ⟨bq, 2, none⟩ = some v := cell_of h.queue 2 _ rfl
  have HU : Hid (Calls Try.prog 28 #[v, .int .i64 i, entV tb e] w fun r w' => UpPost w lo hi bq tb n v es i e F ix r w') := up_any h i hi' e hs hhi hx hu
  obtain ⟨o, cap, hv, _, _⟩ := h.slice
  subst hv
  clear h hx hu
  unfold entV at HU
  go_enter Try.func24, Try.ntmps24
  go_wp2_with fail
  refine HU.out.mono ?_
  intro r w1 hp
  have hr := hp.1
  subst hr
  replace hp : Hid (UpPost w lo hi bq tb n (.slice o es.length cap) es i e F ix (.returned (.tuple #[])) w1) := hp
  go_wp2_with fail
  go_end0
  exact hp.out

def PushPost (w : World) (lo bq : Nat) (tb : Nat → Nat) (n : Nat → Prop) (es : List Ent) (F : Nat → Bool) (e : Ent) (w' : World) : Prop :=
  ∃ es' ix', HQ w' lo w'.heap.size bq (updT tb e.seq w.heap.size) (addN n e.seq) es' (updF F e.seq true) ix' ∧ es'.Perm (es ++ [e]) ∧ Mod lo w.heap.size w w' ∧ w.heap.size < w'.heap.size

set_option maxHeartbeats 2000000 in
set_option maxRecDepth 20000 in
theorem push_any (h : HQ w lo w.heap.size bq tb n es F ix) (e : Ent) (hs : ¬ n e.seq) (hn : es.length < 65536) :
    Calls Try.prog 16 #[.pointer (some ⟨bq, 0, none⟩), .int .i64 e.at_, .int .u64 e.seq] w fun r w' => r = .returned (.pointer (some ⟨w.heap.size, 0, none⟩)) ∧ PushPost w lo bq tb n es F e w' := by
  obtain ⟨v, hq⟩ := h.qs
  obtain ⟨w1, hw1, h1⟩ : ∃ w1, w1 = w.alloc (.cells (tcells bq) 53) ∧ QS w1 lo w1.heap.size bq (updT tb e.seq w.heap.size) (addN n e.seq) v es (updF F e.seq true) (upd ix e.seq 0) := ⟨_, rfl, hq.newTimer e.seq hs⟩
  have hb1 : Below w.heap.size w w1 := by rw [hw1]; exact (Below.refl _ _).alloc (Nat.le_refl _) _
  have hsz : w1.heap.size = w.heap.size + 1 := by rw [hw1]; simp
  have hlo : lo ≤ w.heap.size := by have := hq.bqr; omega
  have H1 : Hid (QS w1 lo w1.heap.size bq (updT tb e.seq w.heap.size) (addN n e.seq) v es (updF F e.seq true) (upd ix e.seq 0)) := h1
  have HAC : Hid (Calls Try.prog 27 #[.pointer (some ⟨bq, 0, none⟩), .int .i64 e.at_, .int .u64 e.seq, .pointer (some ⟨w.heap.size, 0, none⟩)] w1 fun r w' => r = .returned (.tuple #[]) ∧ AppPost w1 lo bq (updT tb e.seq w.heap.size) (addN n e.seq) (es ++ [e]) (updF F e.seq true) (upd ix e.seq 0) w') := by
    have := append_any h1 e (Or.inl rfl) (by omega)
    rwa [show updT tb e.seq w.heap.size e.seq = w.heap.size by simp [updT]] at this
  have hss : ∀ x ∈ es, x.seq ≠ e.seq := fun x hx y => hs (y ▸ hq.seqs x hx)
  have HHX := h.ixok.app hss 0
  have HUP := h.heap.app (e := e)
  replace HHX : Hid _ := HHX
  replace HUP : Hid _ := HUP
  replace hb1 : Hid _ := hb1
  clear h hq h1 hss
  go_enter Try.func16, Try.ntmps16
  go_wp2_with fail
  refine (newTimer_any _ _).mono ?_
  rintro r w1' ⟨rfl, hw1'⟩
  rw [← hw1] at hw1'
  subst hw1'
  clear hw1
  go_wp2_with fail
  refine HAC.out.mono ?_
  rintro r w2 ⟨rfl, v2, hq2, hb2⟩
  have HQ2 : Hid (QS w2 lo w2.heap.size bq (updT tb e.seq w.heap.size) (addN n e.seq) v2 (es ++ [e]) (updF F e.seq true) (upd ix e.seq 0)) := hq2
  replace hb2 : Hid _ := hb2
  clear hq2
  go_wp2_with fail
  refine (len_any HQ2.out).mono ?_
  rintro r w2' ⟨rfl, hw2'⟩
  rw [hw2']
  clear hw2' w2'
  have HZ : Hid (Calls Try.prog 24 #[.pointer (some ⟨bq, 0, none⟩), .int .i64 es.length, .int .i64 e.at_, .int .u64 e.seq, .pointer (some ⟨w.heap.size, 0, none⟩)] w2 fun r w' => UpPost w2 lo w2.heap.size bq (updT tb e.seq w.heap.size) (addN n e.seq) v2 (es ++ [e]) es.length e (updF F e.seq true) (upd ix e.seq 0) r w') := by
    have := zzup_any HQ2.out es.length (by simp) e (Or.inl rfl) (Nat.le_refl _) HHX.out HUP.out
    rwa [show updT tb e.seq w.heap.size e.seq = w.heap.size by simp [updT]] at this
  have hln : (es ++ [e]).length = es.length + 1 := by simp
  rw [hln]
  clear hln
  go_wp2_with fail
  refine HZ.out.mono ?_
  rintro r w3 ⟨rfl, es3, ix3, q3, p3, i3, h3, fr3, m3⟩
  have HF : Hid (PushPost w lo bq tb n es F e w3) := by
    rw [set_app] at p3
    have s2 := hb2.out.size
    have s3 := m3.size
    refine ⟨es3, ix3, ⟨⟨_, q3.widen s3⟩, i3, h3⟩, p3, (((Mod.of_below hb1.out).trans (hb2.out.widen (by omega))).trans m3).cap (Nat.le_refl _), by omega⟩
  clear q3 p3 i3 h3 fr3 m3
  go_wp2_with fail
  go_ret
  exact ⟨rfl, HF.out⟩
end
end Go.Proofs.Qxb6616716a
