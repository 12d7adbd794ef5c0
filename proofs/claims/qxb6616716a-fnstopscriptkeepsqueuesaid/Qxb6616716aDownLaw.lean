import Derived.Test.Qxb6616716aUp
namespace Go.Proofs.Qxb6616716a
open Go.RowKit

structure DownOk (es : List Ent) (i : Nat) (e : Ent) : Prop where
  pair : ∀ j, 0 < j → j < es.length → j ≠ i → par j ≠ i → (E es j).lt (E es (par j)) = false
  grand : ∀ j, 0 < j → j < es.length → par j = i → 0 < i → (E es j).lt (E es (par i)) = false

/-- c is the child of i that goes first -/
structure Least (es : List Ent) (i c : Nat) : Prop where
  lt : c < es.length
  pos : 0 < c
  up : par c = i
  least : ∀ j, 0 < j → j < es.length → par j = i → (E es j).lt (E es c) = false

theorem Least.alone {es : List Ent} {i : Nat} (h : 2 * i + 1 < es.length) (h2 : ¬ 2 * i + 2 < es.length) : Least es i (2 * i + 1) :=
  ⟨h, by omega, by unfold par; omega, fun j h1 h2 h3 => by
    have : j = 2 * i + 1 := by unfold par at h3; omega
    subst this
    unfold Ent.lt; simp⟩
theorem Least.left {es : List Ent} {i : Nat} (h : 2 * i + 2 < es.length) (hd : (E es (2 * i + 2)).lt (E es (2 * i + 1)) = false) : Least es i (2 * i + 1) :=
  ⟨by omega, by omega, by unfold par; omega, fun j h1 h2 h3 => by
    have : j = 2 * i + 1 ∨ j = 2 * i + 2 := by unfold par at h3; omega
    rcases this with rfl | rfl
    · unfold Ent.lt; simp
    · exact hd⟩
theorem Least.right {es : List Ent} {i : Nat} (h : 2 * i + 2 < es.length) (hd : (E es (2 * i + 2)).lt (E es (2 * i + 1)) = true) : Least es i (2 * i + 2) :=
  ⟨by omega, by omega, by unfold par; omega, fun j h1 h2 h3 => by
    have : j = 2 * i + 1 ∨ j = 2 * i + 2 := by unfold par at h3; omega
    rcases this with rfl | rfl
    · exact lt_asymm hd
    · unfold Ent.lt; simp⟩

theorem HoleIx.down {es : List Ent} {ix : Nat → Int} {i c : Nat} {e : Ent} (h : HoleIx es ix i e) (hi : i < es.length) (hc : c < es.length) (hne : c ≠ i) : HoleIx (es.set i (E es c)) (upd ix (E es c).seq i) c e := by
  intro j hj hn
  rw [List.length_set] at hj
  rw [E_set es i j _ hi]
  split
  case isTrue hji =>
    subst hji
    exact ⟨by simp [upd], (h c hc hne).2⟩
  case isFalse hji =>
    have h1 := h j hj hji
    have h2 := h c hc hne
    refine ⟨?_, h1.2⟩
    unfold upd
    rw [if_neg ?_]
    · exact h1.1
    · intro x
      rw [x, h2.1] at h1
      omega

theorem DownOk.down {es : List Ent} {i c : Nat} {e : Ent} (h : DownOk es i e) (hi : i < es.length) (hl : Least es i c) : DownOk (es.set i (E es c)) c e := by
  have hp := hl.up
  have hc := hl.lt
  have h0 := hl.pos
  have hic : i < c := by unfold par at hp; omega
  have hV : ∀ j, E (es.set i (E es c)) j = if j = i then E es c else E es j := fun j => E_set es i j _ hi
  refine ⟨fun j h1 h2 h3 h4 => ?_, fun j h1 h2 h3 h4 => ?_⟩
  · rw [List.length_set] at h2
    rw [hV, hV]
    have hpj : par j < j := by unfold par; omega
    by_cases hji : j = i
    · subst hji
      rw [if_pos rfl, if_neg (by omega)]
      exact h.grand c h0 hc hp h1
    · rw [if_neg hji]
      by_cases hpi : par j = i
      · rw [if_pos hpi]
        exact hl.least j h1 h2 hpi
      · rw [if_neg hpi]
        exact h.pair j h1 h2 hji hpi
  · rw [List.length_set] at h2
    have hpj : par j < j := by unfold par; omega
    rw [hV, hV, hp, if_pos rfl, if_neg (by omega)]
    have := h.pair j h1 h2 (by omega) (by omega)
    rw [h3] at this
    exact this

theorem DownOk.heap {es : List Ent} {i : Nat} {e : Ent} (h : DownOk es i e) (hi : i < es.length) (hc : ∀ j, 0 < j → j < es.length → par j = i → (E es j).lt e = false) (hp : 0 < i → e.lt (E es (par i)) = false) : IsHeap (es.set i e) := by
  have hV : ∀ j, E (es.set i e) j = if j = i then e else E es j := fun j => E_set es i j _ hi
  intro j h1 h2
  rw [List.length_set] at h2
  have hpj : par j < j := by unfold par; omega
  rw [hV, hV]
  by_cases hji : j = i
  · subst hji
    rw [if_pos rfl, if_neg (by omega)]
    exact hp h1
  · rw [if_neg hji]
    by_cases hpi : par j = i
    · rw [if_pos hpi]
      exact hc j h1 h2 hpi
    · rw [if_neg hpi]
      exact h.pair j h1 h2 hji hpi

theorem DownOk.upOk {es : List Ent} {i : Nat} {e : Ent} (h : DownOk es i e) (hi : i < es.length) (hc : ∀ j, 0 < j → j < es.length → par j = i → (E es j).lt e = false) : UpOk es i e := by
  have hV : ∀ j, E (es.set i e) j = if j = i then e else E es j := fun j => E_set es i j _ hi
  refine ⟨fun j h1 h2 h3 => ?_, fun j h1 h2 h3 h4 => ?_⟩
  · have hpj : par j < j := by unfold par; omega
    rw [hV, hV, if_neg h3]
    by_cases hpi : par j = i
    · rw [if_pos hpi]
      exact hc j h1 h2 hpi
    · rw [if_neg hpi]
      exact h.pair j h1 h2 h3 hpi
  · have hpj : par j < j := by unfold par; omega
    have hpi : par i < i := by unfold par; omega
    rw [hV, hV, if_neg (by omega), if_neg (by omega)]
    exact h.grand j h1 h2 h3 h4

/-- the state of down's loop: the hole at k -/
structure DnI (w wr : World) (lo hi bq : Nat) (tb : Nat → Nat) (n : Nat → Prop) (v : Value) (es : List Ent) (i : Nat) (e : Ent) (F : Nat → Bool) (ix : Nat → Int) (k : Nat) (es' : List Ent) (ix' : Nat → Int) : Prop where
  qs : QS wr lo hi bq tb n v es' F ix'
  len : es'.length = es.length
  hole : HoleIx es' ix' k e
  ok : DownOk es' k e
  perm : (es'.set k e).Perm (es.set i e)
  frame : ∀ s, (∀ x ∈ es.set i e, x.seq ≠ s) → ix' s = ix s
  ge : i ≤ k
  same : k = i → es' = es
  below : i < k → e.lt (E es' (par k)) = false
  mod : Mod lo hi w wr
  box : wr.heap[w.heap.size]? = some (.cells #[.int .i64 e.at_, .int .u64 e.seq, .pointer (some ⟨tb e.seq, 0, none⟩)] 55 (0, 0))

def DnPost (w : World) (lo hi bq : Nat) (tb : Nat → Nat) (n : Nat → Prop) (v : Value) (es : List Ent) (i : Nat) (e : Ent) (F : Nat → Bool) (ix : Nat → Int) (b : Bool) (w' : World) : Prop :=
  ∃ es' ix', QS w' lo hi bq tb n v es' F ix' ∧ es'.Perm (es.set i e) ∧ IxOk es' ix' ∧ (∀ s, (∀ x ∈ es.set i e, x.seq ≠ s) → ix' s = ix s) ∧ Mod lo hi w w' ∧ (b = true → IsHeap es') ∧ (b = false → es' = es.set i e ∧ UpOk es i e)

section
variable {w : World} {lo hi bq : Nat} {tb : Nat → Nat} {n : Nat → Prop} {es : List Ent} {F : Nat → Bool} {ix : Nat → Int}

theorem DnI.later {wr w' : World} {v : Value} {i k : Nat} {e : Ent} {es' : List Ent} {ix' : Nat → Int} (h : DnI w wr lo hi bq tb n v es i e F ix k es' ix') (hb : Below wr.heap.size wr w') : DnI w w' lo hi bq tb n v es i e F ix k es' ix' :=
  ⟨h.qs.later hb, h.len, h.hole, h.ok, h.perm, h.frame, h.ge, h.same, h.below, h.mod.trans (Mod.of_below hb), by rw [hb.block _ (Array.getElem?_eq_some_iff.1 h.box).1]; exact h.box⟩

theorem DnI.move {wr w' : World} {v : Value} {i k c : Nat} {e : Ent} {es' : List Ent} {ix' : Nat → Int} (h : DnI w wr lo hi bq tb n v es i e F ix k es' ix') (hk : k < es.length) (hc : Least es' k c) (hlt : (E es' c).lt e = true) (hhi : hi ≤ w.heap.size)
    (hq : QS w' lo hi bq tb n v (es'.set k (E es' c)) F (upd ix' (E es' c).seq k)) (hm : Mod lo hi wr w') :
    DnI w w' lo hi bq tb n v es i e F ix c (es'.set k (E es' c)) (upd ix' (E es' c).seq k) := by
  have hl := h.len
  have hcl := hc.lt
  have hkc : k < c := by have := hc.up; have := hc.pos; unfold par at *; omega
  have hperm := (hole_perm (es := es') (i := k) (p := c) (by omega) (by omega) (by omega) e).trans h.perm
  refine ⟨hq, by simpa using hl, h.hole.down (by omega) hcl (by omega), h.ok.down (by omega) hc, hperm, fun s hs => ?_, by have := h.ge; omega, fun x => ?_, fun _ => ?_, h.mod.trans hm, ?_⟩
  · unfold upd
    rw [if_neg ?_]
    · exact h.frame s hs
    · intro x
      refine hs (E es' c) (h.perm.subset ?_) x.symm
      rw [E_get (by omega)]
      exact List.mem_iff_getElem.2 ⟨c, by simp; omega, by rw [List.getElem_set_ne (by omega)]⟩
  · have := h.ge; omega
  · rw [hc.up, E_set _ _ _ _ (by omega), if_pos rfl]
    exact lt_asymm hlt
  · have hlt2 : w.heap.size < wr.heap.size := (Array.getElem?_eq_some_iff.1 h.box).1
    rw [hm.block _ hlt2 (Or.inr hhi)]
    exact h.box

theorem DnI.finish {wr w' : World} {v : Value} {i k : Nat} {e : Ent} {es' : List Ent} {ix' : Nat → Int} (h : DnI w wr lo hi bq tb n v es i e F ix k es' ix') (hi' : i < es.length) (hk : k < es.length) (hd : ∀ j, 0 < j → j < es'.length → par j = k → (E es' j).lt e = false)
    (hq : QS w' lo hi bq tb n v (es'.set k e) F (upd ix' e.seq k)) (hm : Mod lo hi wr w') : DnPost w lo hi bq tb n v es i e F ix (decide (i < k)) w' := by
  have hl := h.len
  refine ⟨_, _, hq, h.perm, h.hole.done (by omega), fun s hs => ?_, h.mod.trans hm, fun hb => ?_, fun hb => ?_⟩
  · unfold upd
    rw [if_neg ?_]
    · exact h.frame s hs
    · intro x
      exact hs e (List.mem_iff_getElem.2 ⟨i, by simpa using hi', by simp⟩) x.symm
  · exact h.ok.heap (by omega) hd (fun _ => h.below (by simp at hb; omega))
  · have := h.ge
    have hki : k = i := by simp at hb; omega
    have hes := h.same hki
    subst hki
    subst hes
    exact ⟨rfl, h.ok.upOk hi' hd⟩
end
end Go.Proofs.Qxb6616716a
