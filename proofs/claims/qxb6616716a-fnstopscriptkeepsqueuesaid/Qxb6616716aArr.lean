import Derived.Test.Qxb6616716aPop
namespace Go.Proofs.Qxb6616716a
open Go.RowKit

theorem info31 : (Try.prog.info? 31).map (fun i => (i.zero, i.size, i.bytes)) = some (some (.pointer none), 1, 8) := by kernel_rfl
theorem info4 : (Try.prog.info? 4).map (fun i => (i.zero, i.size, i.bytes)) = some (some (.bool false), 1, 1) := by kernel_rfl
theorem info2 : (Try.prog.info? 2).map (fun i => (i.zero, i.size, i.bytes)) = some (some (.int .i64 0), 1, 8) := by kernel_rfl

/-- an array of the law's own -/
def Arr (w : World) (T : TypeId) (g N : Nat) (f : Nat → Value) : Prop := ∃ cur : Array Value, w.heap[g]? = some (.cells cur T (0, 0)) ∧ cur.size = N ∧ ∀ k, k < N → cur[k]? = some (f k)
theorem Arr.cell {w : World} {T : TypeId} {g N : Nat} {f : Nat → Value} (h : Arr w T g N f) {k : Nat} (hk : k < N) : w.cell? ⟨g, k, none⟩ = some (f k) := by
  obtain ⟨cur, h1, h2, h3⟩ := h
  exact cell_of h1 k _ (h3 k hk)
theorem Arr.free {w : World} {T : TypeId} {g N : Nat} {f : Nat → Value} (h : Arr w T g N f) (k : Nat) : w.frozen? ⟨g, k, none⟩ = false := by
  obtain ⟨cur, h1, h2, h3⟩ := h
  exact free_of h1 k
theorem Arr.lt {w : World} {T : TypeId} {g N : Nat} {f : Nat → Value} (h : Arr w T g N f) : g < w.heap.size := by
  obtain ⟨cur, h1, h2, h3⟩ := h
  exact (Array.getElem?_eq_some_iff.1 h1).1
theorem Arr.of_eq {w w' : World} {T : TypeId} {g N : Nat} {f : Nat → Value} (h : Arr w T g N f) (he : w'.heap[g]? = w.heap[g]?) : Arr w' T g N f := by
  obtain ⟨cur, h1, h2, h3⟩ := h
  exact ⟨cur, he.trans h1, h2, h3⟩
theorem Arr.congr {w : World} {T : TypeId} {g N : Nat} {f f' : Nat → Value} (h : Arr w T g N f) (he : ∀ k, k < N → f' k = f k) : Arr w T g N f' := by
  obtain ⟨cur, h1, h2, h3⟩ := h
  exact ⟨cur, h1, h2, fun k hk => by rw [he k hk]; exact h3 k hk⟩
theorem Arr.other {w : World} {T : TypeId} {g N : Nat} {f : Nat → Value} (h : Arr w T g N f) (hT : T ≠ 51 ∧ T ≠ 53 ∧ T ≠ 55) : Other w g := by
  obtain ⟨cur, h1, h2, h3⟩ := h
  intro cs T' fz hc
  rw [h1] at hc
  simp at hc
  rw [← hc.2.1]
  exact hT
theorem Arr.mod {w w' : World} {T : TypeId} {g N lo hi : Nat} {f : Nat → Value} (h : Arr w T g N f) (hT : T ≠ 51 ∧ T ≠ 53 ∧ T ≠ 55) (hm : Mod lo hi w w') : Arr w' T g N f :=
  h.of_eq (hm.kept g h.lt (h.other hT))
theorem Arr.set {w : World} {T : TypeId} {g N : Nat} {f : Nat → Value} (h : Arr w T g N f) {k : Nat} (hk : k < N) (u : Value) : Arr (w.setCell ⟨g, k, none⟩ u) T g N (fun j => if j = k then u else f j) := by
  obtain ⟨cur, h1, h2, h3⟩ := h
  refine ⟨_, set_same h1 k u, by simpa using h2, fun j hj => ?_⟩
  by_cases hjk : j = k
  · subst hjk
    simp [h2, hj]
  · simp only [if_neg hjk]
    rw [Array.getElem?_setIfInBounds_ne (fun x => hjk x.symm)]
    exact h3 j hj
theorem Arr.setOther {w : World} {T : TypeId} {g N : Nat} {f : Nat → Value} (h : Arr w T g N f) {p : Addr} (hp : g ≠ p.block) (u : Value) : Arr (w.setCell p u) T g N f :=
  h.of_eq (Below.heap_setCell _ _ _ _ hp)
theorem Arr.made {w : World} {lo g N : Nat} {T : TypeId} {z : Value} (h : w.ownsRow lo T 1 (.slice (some ⟨g, 0, none⟩) N N) N (madeCells #[z] (N * 1)).toList) : Arr w T g N (fun _ => z) := by
  rcases h.2 with ⟨h', _⟩ | ⟨g', cap, cur, h', _, h1, _, _, h2, h3⟩
  · cases h'
  · simp at h'
    obtain ⟨rfl, rfl⟩ := h'
    refine ⟨cur, h1, by omega, fun k hk => ?_⟩
    rw [toList_madeCells_one] at h3
    have h4 : (cur.toList.take (N * 1))[k]? = some z := by
      rw [h3, List.getElem?_replicate, if_pos (by omega)]
    rw [List.getElem?_take_of_lt (by omega)] at h4
    simpa using h4

section
variable {w : World} {lo hi bq : Nat} {tb : Nat → Nat} {n : Nat → Prop} {v : Value} {es : List Ent} {F : Nat → Bool} {ix : Nat → Int}
theorem QS.setFar (h : QS w lo hi bq tb n v es F ix) {p : Addr} (hp : Other w p.block) (u : Value) : QS (w.setCell p u) lo hi bq tb n v es F ix := by
  have nb : bq ≠ p.block := by rintro rfl; exact (hp _ _ _ h.queue).1 rfl
  have nt : ∀ s, n s → tb s ≠ p.block := fun s hs e => (hp _ _ _ (e ▸ h.tim s hs)).2.1 rfl
  have nr : v.ownBlock ≠ some p.block := fun e => by
    obtain ⟨cur, hc⟩ := h.row_block e
    exact (hp _ _ _ hc).2.2 rfl
  refine ⟨?_, ownsRow_setCell_other h.row nr u, fun s hs => ?_, h.bqr, h.tbr, h.rowr, h.inj, h.seqs⟩
  · rw [Below.heap_setCell _ _ _ _ nb]; exact h.queue
  · rw [Below.heap_setCell _ _ _ _ (nt s hs)]; exact h.tim s hs
theorem HQ.setFar (h : HQ w lo hi bq tb n es F ix) {p : Addr} (hp : Other w p.block) (u : Value) : HQ (w.setCell p u) lo hi bq tb n es F ix := by
  obtain ⟨v, hq⟩ := h.qs
  exact ⟨⟨v, hq.setFar hp u⟩, h.ixok, h.heap⟩
theorem HQ.widen {hi' : Nat} (h : HQ w lo hi bq tb n es F ix) (hh : hi ≤ hi') : HQ w lo hi' bq tb n es F ix := by
  obtain ⟨v, hq⟩ := h.qs
  exact ⟨⟨v, hq.widen hh⟩, h.ixok, h.heap⟩
theorem Mod.setNew {a : World} (h : Mod lo hi a w) {p : Addr} (hp : a.heap.size ≤ p.block) (u : Value) : Mod lo hi a (w.setCell p u) :=
  ⟨h.os, h.tape, h.output, by simpa using h.size, fun k hk ho => by rw [Below.heap_setCell _ _ _ _ (by omega)]; exact h.block k hk ho,
    fun k hk ho => by rw [Below.heap_setCell _ _ _ _ (by omega)]; exact h.kept k hk ho⟩
end

/-- a slice that can be read, and that no queue's doings turn -/
def Vec (w : World) (lo : Nat) (v : Value) (N : Nat) (f : Nat → Value) : Prop :=
  ∃ ao cap, v = .slice ao N cap ∧ N ≤ cap ∧ cap ≤ maxLen ∧ (0 < N → ∃ b off, ao = some ⟨b, off, none⟩ ∧ (b < lo ∨ Other w b) ∧ ∀ k, k < N → w.cell? ⟨b, off + k, none⟩ = some (f k))
theorem Vec.mod {w w' : World} {lo hi : Nat} {v : Value} {N : Nat} {f : Nat → Value} (h : Vec w lo v N f) (hm : Mod lo hi w w') : Vec w' lo v N f := by
  obtain ⟨ao, cap, rfl, h1, h2, h3⟩ := h
  refine ⟨ao, cap, rfl, h1, h2, fun h0 => ?_⟩
  obtain ⟨b, off, rfl, h4, h5⟩ := h3 h0
  have hb : b < w.heap.size := World.block_lt_of_cell? w _ (h5 0 h0)
  have he : w'.heap[b]? = w.heap[b]? := by
    rcases h4 with h4 | h4
    · exact hm.block b hb (Or.inl h4)
    · exact hm.kept b hb h4
  refine ⟨b, off, rfl, h4.imp_right fun h => h.of_eq he, fun k hk => ?_⟩
  rw [World.cell?_of_block (w := w) he]
  exact h5 k hk
theorem Vec.later {w w' : World} {lo : Nat} {v : Value} {N : Nat} {f : Nat → Value} (h : Vec w lo v N f) (hb : Below w.heap.size w w') : Vec w' lo v N f := h.mod (hi := 0) (Mod.of_below hb)
theorem Vec.setNew {w : World} {lo : Nat} {v : Value} {N : Nat} {f : Nat → Value} (h : Vec w lo v N f) {p : Addr} (hp : v.ownBlock ≠ some p.block) (u : Value) : Vec (w.setCell p u) lo v N f := by
  obtain ⟨ao, cap, rfl, h1, h2, h3⟩ := h
  refine ⟨ao, cap, rfl, h1, h2, fun h0 => ?_⟩
  obtain ⟨b, off, rfl, h4, h5⟩ := h3 h0
  have he : (w.setCell p u).heap[b]? = w.heap[b]? := Below.heap_setCell _ _ _ _ (fun e => hp (by rw [← e]; rfl))
  refine ⟨b, off, rfl, h4.imp_right fun h => h.of_eq he, fun k hk => ?_⟩
  rw [World.cell?_of_block (w := w) he]
  exact h5 k hk
theorem Arr.vec {w : World} {T : TypeId} {g N lo : Nat} {f : Nat → Value} (h : Arr w T g N f) (hT : T ≠ 51 ∧ T ≠ 53 ∧ T ≠ 55) (hN : N ≤ 65536) : Vec w lo (.slice (some ⟨g, 0, none⟩) N N) N f :=
  ⟨_, N, rfl, Nat.le_refl _, by unfold maxLen; omega, fun _ => ⟨g, 0, rfl, Or.inr (h.other hT), fun k hk => by rw [Nat.zero_add]; exact h.cell hk⟩⟩
theorem Vec.lo_mono {w : World} {lo lo' : Nat} {v : Value} {N : Nat} {f : Nat → Value} (h : Vec w lo v N f) (hl : lo ≤ lo') : Vec w lo' v N f := by
  obtain ⟨ao, cap, rfl, h1, h2, h3⟩ := h
  refine ⟨ao, cap, rfl, h1, h2, fun h0 => ?_⟩
  obtain ⟨b, off, rfl, h4, h5⟩ := h3 h0
  exact ⟨b, off, rfl, h4.imp_left (fun h => by omega), h5⟩
/-- the argument's row -/
theorem Vec.of_row {w : World} {k : IntKind} {a : Option Addr} {len cap : Nat} {zs : List Int}
    (h : (a = none ∧ len = 0 ∧ cap = 0 ∧ zs = []) ∨ ∃ x, a = some x ∧ len ≤ cap ∧ cap ≤ maxLen ∧ zs.length = cap ∧ (∀ i, i < zs.length → w.cell? (x.add i) = some (.int k (zs.getD i 0))) ∧ ∀ n ∈ zs, (Lit.int k n).wf = true) :
    Vec w w.heap.size (.slice a len cap) len (fun j => .int k (zs.getD j 0)) := by
  rcases h with ⟨rfl, rfl, rfl, rfl⟩ | ⟨x, rfl, h1, h2, h3, h4, _⟩
  · exact ⟨none, 0, rfl, Nat.le_refl _, by unfold maxLen; omega, fun h => by omega⟩
  · refine ⟨some x, cap, rfl, h1, h2, fun h0 => ?_⟩
    have c0 := h4 0 (by omega)
    have hsp : x.spot = none := by
      unfold Addr.add at c0
      simp [World.cell?] at c0
      split at c0
      · cases hs : x.spot with
        | none => rfl
        | some _ => rw [hs] at c0; simp at c0
      · simp at c0
    obtain ⟨b, off, sp⟩ := x
    simp at hsp
    subst hsp
    refine ⟨b, off, rfl, Or.inl (World.block_lt_of_cell? w _ c0), fun j hj => ?_⟩
    have := h4 j (by omega)
    unfold Addr.add at this
    by_cases hj0 : j = 0
    · subst hj0; simpa using this
    · rw [if_neg hj0] at this
      exact this
end Go.Proofs.Qxb6616716a
