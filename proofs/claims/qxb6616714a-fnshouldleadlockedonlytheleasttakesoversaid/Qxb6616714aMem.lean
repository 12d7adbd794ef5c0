import Derived.Test.Qxb6616714aRows
import Derived.WalkKit
import Derived.Deep.AppendLies
import Derived.Laws.AppendOwnNone
import Derived.Lib.Varint
namespace Go.Proofs.Qxb6616714a
open Go.RowKit

/-! ### Slices that can be read: 'Rd w v n xs': the slice value v has n elements, whose cells are xs -/
def Rd (w : World) (v : Value) (n : Nat) (xs : List Value) : Prop :=
  ∃ ao cap, v = .slice ao n cap ∧ n ≤ cap ∧ cap ≤ maxLen ∧ (ao = none → n = 0 ∧ cap = 0 ∧ xs = []) ∧
    ∀ ad, ao = some ad → ∀ j u, xs[j]? = some u → w.cell? (ad.add j) = some u

def byteCells (l : List UInt8) : List Value := l.map fun b => .int .u8 b.toNat
theorem byteCells_append (a b : List UInt8) : byteCells (a ++ b) = byteCells a ++ byteCells b := by simp [byteCells]
theorem byteCells_length (a : List UInt8) : (byteCells a).length = a.length := by simp [byteCells]
theorem byteCells_one (l : List UInt8) : ∀ u ∈ byteCells l, u.oneCell' = true := by
  intro u hu
  obtain ⟨_, _, rfl⟩ := List.mem_map.1 hu
  rfl

/-- the buffer that is being written: a row of bytes of the call's own -/
def Buf (w : World) (base : Nat) (v : Value) (l : List UInt8) : Prop := w.ownsRow base 5 1 v l.length (byteCells l)

/-- what an appending step leaves: nothing old but v's own row has turned; the new value lies in the old row or in a new block -/
def App (w : World) (v : Value) (w' : World) (v' : Value) : Prop :=
  w.grownBy w' v.ownBlock ∧ (v'.ownBlock = v.ownBlock ∨ ∀ k, v'.ownBlock = some k → w.heap.size ≤ k)

theorem App.refl (w : World) (v : Value) : App w v w v := ⟨World.grownBy.refl _ _, Or.inl rfl⟩
theorem App.trans {w w1 w2 : World} {v v1 v2 : Value} (h : App w v w1 v1) (k : App w1 v1 w2 v2) : App w v w2 v2 := by
  obtain ⟨g1, a1⟩ := h
  obtain ⟨g2, a2⟩ := k
  refine ⟨⟨g2.os.trans g1.os, g2.tape.trans g1.tape, g2.output.trans g1.output, Nat.le_trans g1.size g2.size, fun i hi hne => ?_⟩, ?_⟩
  · rw [g2.block i (Nat.lt_of_lt_of_le hi g1.size) ?_, g1.block i hi hne]
    rcases a1 with a1 | a1
    · rw [a1]; exact hne
    · intro e
      have := a1 i e.symm
      omega
  · rcases a2 with a2 | a2
    · rw [a2]
      exact a1
    · exact Or.inr fun k hk => Nat.le_trans g1.size (a2 k hk)
theorem App.alloc (w : World) (v : Value) (o : Obj) : App w v (w.alloc o) v := ⟨World.grownBy_alloc _ _ _, Or.inl rfl⟩
theorem App.drew (w : World) (v : Value) : App w v w.drew v := ⟨⟨rfl, rfl, rfl, Nat.le_refl _, fun _ _ _ => rfl⟩, Or.inl rfl⟩
/-- a step that makes new memory alone -/
theorem App.of_below {w w' : World} (v : Value) (h : Below w.heap.size w w') : App w v w' v :=
  ⟨⟨h.os, h.tape, h.output, h.size, fun k hk _ => h.block k hk⟩, Or.inl rfl⟩
theorem App.size {w w' : World} {v v' : Value} (h : App w v w' v') : w.heap.size ≤ w'.heap.size := h.1.size

theorem Buf.lt {w : World} {base : Nat} {v : Value} {l : List UInt8} (h : Buf w base v l) : ∀ k, v.ownBlock = some k → base ≤ k := fun k hk => (World.ownsRow.lt h k hk).1
/-- below the buffer's base nothing has turned -/
theorem App.below {w w' : World} {v v' : Value} {base : Nat} {l : List UInt8} (hb : Buf w base v l) (h : App w v w' v') (hB : base ≤ w.heap.size) : Below base w w' :=
  ⟨h.1.os, h.1.tape, h.1.output, h.1.size, fun k hk => h.1.block k (by omega) (fun e => by have := hb.lt k e.symm; omega)⟩
/-- a block of another element type is as it was -/
theorem App.block {w w' : World} {v v' : Value} {base : Nat} {l : List UInt8} (hb : Buf w base v l) (h : App w v w' v') {k : Nat} {cs : Array Value} {T : TypeId} {fz : Nat × Nat} (hT : T ≠ 5)
    (hk : w.heap[k]? = some (.cells cs T fz)) : w'.heap[k]? = some (.cells cs T fz) := by
  rw [h.1.block k (Array.getElem?_eq_some_iff.1 hk).1 ?_, hk]
  intro e
  rcases hb.2 with ⟨rfl, _⟩ | ⟨g, cap, cur, rfl, _, hg, _⟩
  · cases e
  · have : k = g := by simpa [Value.ownBlock] using e
    subst this
    rw [hg] at hk
    simp at hk
    exact hT hk.2.1.symm

/-- the same slice in a later world -/
theorem Rd.later {w w' : World} {v : Value} {n : Nat} {xs : List Value} (h : Rd w v n xs) (hb : Below w.heap.size w w') : Rd w' v n xs := by
  obtain ⟨ao, cap, rfl, h1, h2, h3, h4⟩ := h
  refine ⟨ao, cap, rfl, h1, h2, h3, fun ad hd j u hu => ?_⟩
  have := h4 ad hd j u hu
  exact (hb.cell (World.block_lt_of_cell? w _ this)).trans this

/-- .. behind an appending step, where it does not lie in the row that was appended to -/
theorem Rd.app {w w' : World} {u v v' : Value} {n : Nat} {xs : List Value} (h : Rd w u n xs) (ha : App w v w' v') (hap : ∀ k, u.ownBlock = some k → xs ≠ [] → v.ownBlock ≠ some k) : Rd w' u n xs := by
  obtain ⟨ao, cap, rfl, h1, h2, h3, h4⟩ := h
  refine ⟨ao, cap, rfl, h1, h2, h3, fun ad hd j u hu => ?_⟩
  have := h4 ad hd j u hu
  subst hd
  refine ha.1.cell this fun e => hap ad.block rfl (fun h => by rw [h] at hu; cases hu) ?_
  have hb : (ad.add j).block = ad.block := by unfold Addr.add; split <;> rfl
  rw [← e, hb]

theorem Rd.lt {w : World} {u : Value} {n : Nat} {xs : List Value} (h : Rd w u n xs) (hx : xs ≠ []) {k : Nat} (hk : u.ownBlock = some k) : k < w.heap.size := by
  obtain ⟨ao, cap, rfl, h1, h2, h3, h4⟩ := h
  cases ao with
  | none => cases hk
  | some ad =>
    obtain ⟨x, r, rfl⟩ := List.exists_cons_of_ne_nil hx
    have := World.block_lt_of_cell? w _ (h4 ad rfl 0 x rfl)
    simp [Value.ownBlock] at hk
    simpa [Addr.add, hk] using this

/-- what is owned can be read -/
theorem Rd.of_owns {w : World} {base : Nat} {e : TypeId} {size : Nat} {v : Value} {n : Nat} {xs : List Value} (h : w.ownsRow base e size v n xs) : Rd w v n xs := by
  rcases h.2 with ⟨rfl, rfl⟩ | ⟨g, cap, cur, rfl, hb, hg, hc, hm, hs, ht⟩
  · exact ⟨none, 0, rfl, by omega, by unfold maxLen; omega, fun _ => ⟨rfl, rfl, List.eq_nil_of_length_eq_zero (by simpa using h.1)⟩, fun ad hd => by cases hd⟩
  · refine ⟨_, cap, rfl, hc, hm, (fun h => by cases h), fun ad hd => ?_⟩
    cases hd
    exact h.cells rfl

theorem Buf.later {w w' : World} {base : Nat} {v : Value} {l : List UInt8} (h : Buf w base v l) (hb : Below w.heap.size w w') : Buf w' base v l :=
  World.ownsRow.kept (row := none) h ⟨hb.os, hb.tape, hb.output, hb.size, fun k hk _ => hb.block k hk⟩ (by cases hv : v.ownBlock <;> simp)

theorem cells_of_block {w : World} {k : Nat} {cs : Array Value} {T : TypeId} {fz : Nat × Nat} (h : w.heap[k]? = some (.cells cs T fz)) (j : Nat) (v : Value) (hv : cs[j]? = some v) : w.cell? ⟨k, j, none⟩ = some v := by
  simp [World.cell?, h, hv]
theorem heap_new (w : World) (o : Obj) : (w.alloc o).heap[w.heap.size]? = some o := heap_alloc_new w o

/-- '[]byte(s)': what it makes can be read -/
theorem Rd_conv (w : World) (s : ByteArray) (c : Nat) (fz : Nat × Nat) (H : Nat) (hH : H = w.heap.size) (h1 : s.size ≤ c) (h2 : c ≤ maxLen) : Rd (w.alloc (.cells (bytesRow s c) 5 fz)).drew (.slice (some ⟨H, 0, none⟩) s.size c) s.size (byteCells s.data.toList) := by
  subst hH
  refine ⟨_, c, rfl, h1, h2, (fun h => by cases h), fun ad hd j u hu => ?_⟩
  cases hd
  rw [show (⟨w.heap.size, 0, none⟩ : Addr).add j = ⟨w.heap.size, j, none⟩ by unfold Addr.add; split <;> simp_all]
  refine cells_of_block (heap_new w _) j u ?_
  have hj : j < s.data.size := by
    have := (List.getElem?_eq_some_iff.1 hu).1
    simpa [byteCells] using this
  simp only [bytesRow]
  rw [Array.getElem?_append_left (by simpa using hj)]
  simpa [byteCells, hj] using hu

theorem conv_world (w : World) (E O : Obj) : Below w.heap.size w ((w.alloc E).alloc O).drew ∧ ((w.alloc E).alloc O).drew.heap[w.heap.size]? = some E :=
  ⟨(((Below.refl _ _).alloc (Nat.le_refl _) _).alloc (by simp) _).drew, by
    show ((w.heap.push E).push O)[w.heap.size]? = _
    rw [Array.getElem?_push, if_neg (by simp)]
    simp⟩

theorem info5 : (Try.prog.info? 5).map (fun i => (i.zero, i.size, i.bytes)) = some (some (.int .u8 0), 1, 1) := by kernel_rfl

/-- AT THE OPERATION: 'append(buf, b)': one byte -/
theorem wpList_byte {ops : Array Oper} {rest : List Oper} {o : Oper} {a : Act} {Q : Exit → Act → World → Prop} (hgd : o.guard = none) (s x : Operand)
    (ho : o.op = .call { callee := .builtin .append, args := #[s, x], argTypes := #[34, 34] }) (w : World) (base : Nat) (v : Value) (l : List UInt8) (hb : Buf w base v l) (hB : base ≤ w.heap.size) (hl : l.length ≤ 1099511627776)
    (n : Int) (b : UInt8) (hn : n = b.toNat) (H : Nat) (hH : H = w.heap.size) (hs : a.eval s = v) (hx : a.eval x = .slice (some ⟨H, 0, none⟩) 1 1)
    (h : ∀ v' w', Buf w' base v' (l ++ [b]) → App w v w' v' → wpList Try.prog ops Q rest (a.put o.dst v') w') :
    wpList Try.prog ops Q (o :: rest) a (w.alloc (.cells #[.int .u8 n] 5)) := by
  obtain ⟨i0, hi, hz0, hz1, hz2⟩ := info_parts info5
  subst hn
  subst hH
  refine wpList_append_lies _ hgd s x 34 ho base 5 i0 (.int .u8 0) 1 1 Try.underlying34 hi hz0 hz1 hz2 rfl (by omega) v l.length (byteCells l) hs (World.ownsRow.alloc hb _) ⟨w.heap.size, 0, none⟩ 1 1 [.int .u8 b.toNat] hx rfl (cell_one_new _ _ _) ?_ (by omega) ?_ ?_ ?_ _ rfl ?_
  · intro u hu
    simp at hu
    subst hu
    rfl
  · unfold maxLen; omega
  · omega
  · simp; omega
  · intro g cap w' hown hgrow hat _
    refine h _ w' ?_ ((App.alloc w v _).trans ⟨hgrow, ?_⟩)
    · unfold Buf
      rw [byteCells_append, List.length_append]
      exact hown
    · rcases hat with hat | hat
      · exact Or.inl hat.symm
      · exact Or.inr fun k hk => by simp [Value.ownBlock] at hk; omega

/-- AT THE OPERATION: 'append(buf, xs...)': bytes that can be read -/
theorem wpList_bytes {ops : Array Oper} {rest : List Oper} {o : Oper} {a : Act} {Q : Exit → Act → World → Prop} (hgd : o.guard = none) (s x : Operand)
    (ho : o.op = .call { callee := .builtin .append, args := #[s, x], argTypes := #[34, 34] }) (w : World) (base : Nat) (v : Value) (l : List UInt8) (hb : Buf w base v l) (hB : base ≤ w.heap.size)
    (u : Value) (m : List UInt8) (hm : Rd w u m.length (byteCells m)) (hl : l.length + m.length ≤ 1099511627776) (hs : a.eval s = v) (hx : a.eval x = u)
    (h : ∀ v' w', Buf w' base v' (l ++ m) → App w v w' v' → wpList Try.prog ops Q rest (a.put o.dst v') w') :
    wpList Try.prog ops Q (o :: rest) a w := by
  obtain ⟨i0, hi, hz0, hz1, hz2⟩ := info_parts info5
  obtain ⟨ao, cap, rfl, h1, h2, h3, h4⟩ := hm
  cases ao with
  | none =>
    obtain ⟨h5, h6, h7⟩ := h3 rfl
    have hm0 : m = [] := List.eq_nil_of_length_eq_zero h5
    subst hm0
    subst h6
    refine wpList_plain hgd fun K hK' => ?_
    have hrun := run_append_owned_none (P := Try.prog) w base 34 o.type 5 i0 1 Try.underlying34 hi _ l.length (byteCells l) hb
    unfold Oper.wp
    simp only [List.length_nil] at hx
    simp [execOp, ho, resolve, invoke, builtin, hs, hx, hrun, Result.andThen]
    exact hK' _ _ (h _ _ (by simpa using hb) (App.refl _ _))
  | some ad =>
    refine wpList_plain hgd fun K hK' => ?_
    obtain ⟨v', w', hr, g2, g3, _, g5⟩ := run_append_own_at (P := Try.prog) w base 34 o.type 5 i0 (.int .u8 0) 1 1 Try.underlying34 hi hz0 hz1 hz2 rfl (by omega) v l.length (byteCells l) hb ad m.length cap (byteCells m) (by simp [byteCells]) (h4 ad rfl) (byteCells_one m) (by unfold maxLen; omega) (by omega) hB
    unfold Oper.wp execOp
    simp only [ho, resolve, invoke, builtin, Sem.run_bind, Sem.run_pure, Result.andThen_ok, List.map_toArray, List.map_cons, List.map_nil, hs, hx, hr]
    refine hK' _ _ (h v' w' ?_ ⟨g3, ?_⟩)
    · unfold Buf
      rw [byteCells_append, List.length_append]
      exact g2
    · rcases g5 with g5 | g5
      · exact Or.inl g5
      · exact Or.inr fun k hk => by rw [g5] at hk; simp at hk; omega
end Go.Proofs.Qxb6616714a
