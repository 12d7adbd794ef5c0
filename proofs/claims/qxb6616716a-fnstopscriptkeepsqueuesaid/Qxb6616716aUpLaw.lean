import Derived.Test.Qxb6616716aPlace
namespace Go.Proofs.Qxb6616716a

def E (es : List Ent) (j : Nat) : Ent := es.getD j ⟨0, 0⟩
theorem E_get {es : List Ent} {j : Nat} (h : j < es.length) : E es j = es[j] := by simp [E, List.getD_eq_getElem?_getD, h]
theorem E_set (es : List Ent) (i j : Nat) (e : Ent) (hi : i < es.length) : E (es.set i e) j = if j = i then e else E es j := by
  unfold E
  by_cases h : j = i
  · subst h; simp [List.getD_eq_getElem?_getD, hi]
  · rw [if_neg h]
    rw [List.getD_eq_getElem?_getD, List.getElem?_set_ne (fun x => h x.symm), ← List.getD_eq_getElem?_getD]

theorem lt_asymm {a b : Ent} (h : a.lt b = true) : b.lt a = false := by
  unfold Ent.lt at *
  split at h
  · rename_i h1; rw [if_pos h1.symm]; simp at h ⊢; omega
  · rename_i h1; rw [if_neg (fun x => h1 x.symm)]; simp at h ⊢; omega
theorem lt_trans' {a b c : Ent} (h : b.lt a = false) (k : c.lt b = false) : c.lt a = false := by
  unfold Ent.lt at *
  split at h <;> split at k <;> split <;> simp_all <;> omega
theorem lt_total {a b : Ent} (h : a.lt b = false) (k : b.lt a = false) : a.at_ = b.at_ ∧ a.seq = b.seq := by
  unfold Ent.lt at *
  split at h <;> split at k <;> simp_all <;> omega

/-- the swap of the hole with its parent is a permutation -/
theorem hole_perm {es : List Ent} {i p : Nat} (hi : i < es.length) (hp : p < es.length) (hne : p ≠ i) (e : Ent) : ((es.set i (E es p)).set p e).Perm (es.set i e) := by
  have h := @List.set_set_perm _ (es.set i e) i p (by simpa using hi) (by simpa using hp)
  have h1 : (es.set i e)[p]'(by simpa using hp) = E es p := by rw [E_get hp, List.getElem_set_ne (fun x => hne x.symm)]
  have h2 : (es.set i e)[i]'(by simpa using hi) = e := by simp
  rw [h1, h2, List.set_set] at h
  exact h

def par (j : Nat) : Nat := (j - 1) / 2
def IsHeap (es : List Ent) : Prop := ∀ j, 0 < j → j < es.length → (E es j).lt (E es (par j)) = false
def IxOk (es : List Ent) (ix : Nat → Int) : Prop := ∀ j, j < es.length → ix (E es j).seq = j
def HoleIx (es : List Ent) (ix : Nat → Int) (i : Nat) (e : Ent) : Prop := ∀ j, j < es.length → j ≠ i → ix (E es j).seq = j ∧ (E es j).seq ≠ e.seq
structure UpOk (es : List Ent) (i : Nat) (e : Ent) : Prop where
  pair : ∀ j, 0 < j → j < es.length → j ≠ i → (E (es.set i e) j).lt (E (es.set i e) (par j)) = false
  grand : ∀ j, 0 < j → j < es.length → par j = i → 0 < i → (E (es.set i e) j).lt (E (es.set i e) (par i)) = false

theorem HoleIx.up {es : List Ent} {ix : Nat → Int} {i : Nat} {e : Ent} (h : HoleIx es ix i e) (hi : i < es.length) (h0 : 0 < i) : HoleIx (es.set i (E es (par i))) (upd ix (E es (par i)).seq i) (par i) e := by
  have hp : par i < i := by unfold par; omega
  intro j hj hne
  rw [List.length_set] at hj
  rw [E_set es i j _ hi]
  split
  case isTrue hji =>
    subst hji
    exact ⟨by simp [upd], (h (par j) (by omega) (by omega)).2⟩
  case isFalse hji =>
    have h1 := h j hj hji
    have h2 := h (par i) (by omega) (by omega)
    refine ⟨?_, h1.2⟩
    unfold upd
    rw [if_neg ?_]
    · exact h1.1
    · intro x
      rw [x, h2.1] at h1
      omega

theorem UpOk.up {es : List Ent} {i : Nat} {e : Ent} (h : UpOk es i e) (hi : i < es.length) (h0 : 0 < i) (hlt : e.lt (E es (par i)) = true) : UpOk (es.set i (E es (par i))) (par i) e := by
  have hp : par i < i := by unfold par; omega
  have hV : ∀ j, E (es.set i e) j = if j = i then e else E es j := fun j => E_set es i j e hi
  have hW : ∀ j, E ((es.set i (E es (par i))).set (par i) e) j = if j = par i then e else if j = i then E es (par i) else E es j := fun j => by
    rw [E_set _ _ _ _ (by simp; omega), E_set es i j _ hi]
  have has := lt_asymm hlt
  refine ⟨fun j h1 h2 h3 => ?_, fun j h1 h2 h3 h4 => ?_⟩
  · rw [List.length_set] at h2
    rw [hW, hW, if_neg h3]
    by_cases hji : j = i
    · subst hji
      rw [if_pos rfl, if_pos rfl]
      exact has
    · rw [if_neg hji]
      have hpj : par j < j := by unfold par; omega
      by_cases hc : par j = i
      · have := h.grand j h1 h2 hc h0
        rw [hV, hV, if_neg hji, if_neg (by omega)] at this
        rw [hc, if_neg (by omega), if_pos rfl]
        exact this
      · have := h.pair j h1 h2 hji
        rw [hV, hV, if_neg hji, if_neg hc] at this
        by_cases hs : par j = par i
        · rw [if_pos hs]
          rw [hs] at this
          exact lt_trans' has this
        · rw [if_neg hs, if_neg hc]
          exact this
  · rw [List.length_set] at h2
    have hpp : par (par i) < par i := by unfold par at h4 ⊢; omega
    have hup := h.pair (par i) h4 (by omega) (by omega)
    rw [hV, hV, if_neg (by omega), if_neg (by omega)] at hup
    have hpj : par j < j := by unfold par; omega
    rw [hW, hW, if_neg (show j ≠ par i by omega), if_neg (show par (par i) ≠ par i by omega), if_neg (show par (par i) ≠ i by omega)]
    by_cases hji : j = i
    · rw [if_pos hji]
      exact hup
    · rw [if_neg hji]
      have := h.pair j h1 h2 hji
      rw [hV, hV, if_neg hji, h3, if_neg (by omega)] at this
      exact lt_trans' hup this

theorem UpOk.done {es : List Ent} {i : Nat} {e : Ent} (h : UpOk es i e) (hi : i < es.length) (hd : 0 < i → e.lt (E es (par i)) = false) : IsHeap (es.set i e) := by
  intro j h1 h2
  rw [List.length_set] at h2
  by_cases hji : j = i
  · subst hji
    have hp : par j < j := by unfold par; omega
    rw [E_set es j _ _ hi, E_set es j _ _ hi, if_pos rfl, if_neg (by omega)]
    exact hd h1
  · exact h.pair j h1 h2 hji

theorem HoleIx.done {es : List Ent} {ix : Nat → Int} {i : Nat} {e : Ent} (h : HoleIx es ix i e) (hi : i < es.length) : IxOk (es.set i e) (upd ix e.seq i) := by
  intro j hj
  rw [List.length_set] at hj
  rw [E_set es i j _ hi]
  split
  case isTrue hji => subst hji; simp [upd]
  case isFalse hji =>
    have := h j hj hji
    unfold upd
    rw [if_neg this.2]
    exact this.1
end Go.Proofs.Qxb6616716a
