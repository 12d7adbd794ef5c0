import Derived.Test.Qxb6616716aRows
import Derived.WalkKit
import Derived.Below
import Derived.Laws.EntriesVeiled
import Derived.Laws.OwnMore
import Derived.Deep.AppendLies
import Derived.OneCell
namespace Go.Proofs.Qxb6616716a
open Go.RowKit

/-- an entry of the heap: its deadline, its place in the order of setting -/
structure Ent where
  at_ : Int
  seq : Nat

def Ent.lt (a b : Ent) : Bool := if a.at_ = b.at_ then decide (a.seq < b.seq) else decide (a.at_ < b.at_)
def ecells (tb : Nat → Nat) (e : Ent) : List Value := [.int .i64 e.at_, .int .u64 e.seq, .pointer (some ⟨tb e.seq, 0, none⟩)]
def entV (tb : Nat → Nat) (e : Ent) : Value := .agg #[.int .i64 e.at_, .int .u64 e.seq, .pointer (some ⟨tb e.seq, 0, none⟩)]
def fv (f : Bool) : Value := if f then .func (.func 30) #[] #[] else .nilFunc

theorem below2 (w : World) (o p : Obj) : Below w.heap.size w ((w.alloc o).alloc p) := ((Below.refl _ _).alloc (Nat.le_refl _) _).alloc (by simp) _

set_option maxHeartbeats 1000000 in
set_option maxRecDepth 20000 in
theorem before_any (w : World) (tb : Nat → Nat) (a b : Ent) :
    Calls Try.prog 31 #[entV tb a, entV tb b] w fun e w' => e = .returned (.bool (a.lt b)) ∧ Below w.heap.size w w' := by
  unfold entV
  by_cases h : a.at_ = b.at_
  · have hr : Hid (a.lt b = decide (a.seq < b.seq)) := by unfold Hid Ent.lt; rw [if_pos h]
    go_enter Try.func31, Try.ntmps31
    go_wp2
    go_ret
    exact ⟨by rw [hr.out]; rfl, below2 _ _ _⟩
  · have hr : Hid (a.lt b = decide (a.at_ < b.at_)) := by unfold Hid Ent.lt; rw [if_neg h]
    go_enter Try.func31, Try.ntmps31
    go_wp2
    go_ret
    exact ⟨by rw [hr.out]; rfl, below2 _ _ _⟩

/-- a block that belongs to no queue: its cells are of another type -/
def Other (w : World) (k : Nat) : Prop := ∀ cs T fz, w.heap[k]? = some (.cells cs T fz) → T ≠ 51 ∧ T ≠ 53 ∧ T ≠ 55
theorem Other.of_eq {w w' : World} {k : Nat} (h : Other w k) (he : w'.heap[k]? = w.heap[k]?) : Other w' k := fun cs T fz hc => h cs T fz (he ▸ hc)
/-- nothing has turned but blocks of [lo, hi), of the queue's types, and new ones -/
structure Mod (lo hi : Nat) (w w' : World) : Prop where
  os : w'.os = w.os
  tape : w'.tape = w.tape
  output : w'.output = w.output
  size : w.heap.size ≤ w'.heap.size
  block : ∀ k, k < w.heap.size → k < lo ∨ hi ≤ k → w'.heap[k]? = w.heap[k]?
  kept : ∀ k, k < w.heap.size → Other w k → w'.heap[k]? = w.heap[k]?
theorem Mod.refl (lo hi : Nat) (w : World) : Mod lo hi w w := ⟨rfl, rfl, rfl, Nat.le_refl _, fun _ _ _ => rfl, fun _ _ _ => rfl⟩
theorem Mod.trans {lo hi : Nat} {a b c : World} (h : Mod lo hi a b) (k : Mod lo hi b c) : Mod lo hi a c :=
  ⟨k.os.trans h.os, k.tape.trans h.tape, k.output.trans h.output, Nat.le_trans h.size k.size, fun j hj ho => (k.block j (Nat.lt_of_lt_of_le hj h.size) ho).trans (h.block j hj ho),
    fun j hj ho => (k.kept j (Nat.lt_of_lt_of_le hj h.size) (ho.of_eq (h.kept j hj ho))).trans (h.kept j hj ho)⟩
theorem Mod.of_below {lo hi : Nat} {w w' : World} (h : Below w.heap.size w w') : Mod lo hi w w' := ⟨h.os, h.tape, h.output, h.size, fun k hk _ => h.block k hk, fun k hk _ => h.block k hk⟩
theorem Mod.widen {lo hi hi' : Nat} {w w' : World} (h : Mod lo hi w w') (hh : hi ≤ hi') : Mod lo hi' w w' := ⟨h.os, h.tape, h.output, h.size, fun k hk ho => h.block k hk (by omega), h.kept⟩
theorem Mod.cap {lo hi hi' : Nat} {w w' : World} (h : Mod lo hi w w') (hh : w.heap.size ≤ hi') : Mod lo hi' w w' := ⟨h.os, h.tape, h.output, h.size, fun k hk ho => h.block k hk (by omega), h.kept⟩
theorem Mod.below {lo hi : Nat} {w w' : World} (h : Mod lo hi w w') (hl : lo ≤ w.heap.size) : Below lo w w' := ⟨h.os, h.tape, h.output, h.size, fun k hk => h.block k (by omega) (Or.inl hk)⟩
theorem Mod.setCell {lo hi : Nat} {a w : World} (h : Mod lo hi a w) {p : Addr} (hp : lo ≤ p.block) (hq : p.block < hi) (u : Value) {cs : Array Value} {T : TypeId} {fz : Nat × Nat} (hc : w.heap[p.block]? = some (.cells cs T fz)) (hT : T = 51 ∨ T = 53 ∨ T = 55) : Mod lo hi a (w.setCell p u) :=
  ⟨h.os, h.tape, h.output, by simpa using h.size, fun k hk ho => by rw [Below.heap_setCell _ _ _ _ (by rintro rfl; omega)]; exact h.block k hk ho,
    fun k hk ho => by
      have h1 := h.kept k hk ho
      have h2 := ho.of_eq h1
      rw [Below.heap_setCell _ _ _ _ ?_]
      · exact h1
      · rintro rfl
        have := h2 _ _ _ hc
        exact hT.elim this.1 (fun h => h.elim this.2.1 this.2.2)⟩
theorem Mod.alloc {lo hi : Nat} {a w : World} (h : Mod lo hi a w) (o : Obj) : Mod lo hi a (w.alloc o) :=
  ⟨h.os, h.tape, h.output, by have := h.size; simp; omega, fun k hk ho => by rw [Below.heap_alloc _ _ _ (Nat.lt_of_lt_of_le hk h.size)]; exact h.block k hk ho,
    fun k hk ho => by rw [Below.heap_alloc _ _ _ (Nat.lt_of_lt_of_le hk h.size)]; exact h.kept k hk ho⟩

def upd (ix : Nat → Int) (s : Nat) (i : Int) : Nat → Int := fun k => if k = s then i else ix k

/-- a queue and its timers -/
structure QS (w : World) (lo hi bq : Nat) (tb : Nat → Nat) (n : Nat → Prop) (v : Value) (es : List Ent) (F : Nat → Bool) (ix : Nat → Int) : Prop where
  queue : w.heap[bq]? = some (.cells #[.int .i64 0, .int .u64 0, v, .slice none 0 0, .slice none 0 0] 51 (0, 0))
  row : w.ownsRow lo 55 3 v es.length (es.flatMap (ecells tb))
  tim : ∀ s, n s → w.heap[tb s]? = some (.cells #[.pointer (some ⟨bq, 0, none⟩), fv (F s), .int .i64 (ix s)] 53 (0, 0))
  bqr : lo ≤ bq ∧ bq < hi
  tbr : ∀ s, n s → lo ≤ tb s ∧ tb s < hi
  rowr : ∀ k, v.ownBlock = some k → k < hi
  inj : ∀ s s', n s → n s' → tb s = tb s' → s = s'
  seqs : ∀ e ∈ es, n e.seq

theorem flat3 (tb : Nat → Nat) (es : List Ent) : (es.flatMap (ecells tb)).length = es.length * 3 := by
  induction es with
  | nil => rfl
  | cons e r ih => simp [ecells, ih]; omega
theorem flat_get (tb : Nat → Nat) : ∀ (es : List Ent) (i : Nat) (hi : i < es.length) (j : Nat), j < 3 → (es.flatMap (ecells tb))[i * 3 + j]? = (ecells tb es[i])[j]?
  | [], i, hi, j, hj => by simp at hi
  | e :: r, 0, hi, j, hj => by
    simp only [List.flatMap_cons, List.getElem_cons_zero]
    rw [List.getElem?_append_left (by simp [ecells]; omega)]
    simp
  | e :: r, i + 1, hi, j, hj => by
    simp only [List.flatMap_cons, List.getElem_cons_succ]
    rw [List.getElem?_append_right (by simp [ecells]; omega)]
    have := flat_get tb r i (by simpa using hi) j hj
    rw [← this]
    congr 1
    simp [ecells]
    omega
theorem flat_set (tb : Nat → Nat) (e : Ent) : ∀ (es : List Ent) (i : Nat), i < es.length →
    (((es.flatMap (ecells tb)).set (i * 3) (.int .i64 e.at_)).set (i * 3 + 1) (.int .u64 e.seq)).set (i * 3 + 2) (.pointer (some ⟨tb e.seq, 0, none⟩)) = (es.set i e).flatMap (ecells tb)
  | [], i, hi => by simp at hi
  | x :: r, 0, hi => by simp [ecells]
  | x :: r, i + 1, hi => by
    have := flat_set tb e r i (by simpa using hi)
    simp only [List.set_cons_succ, List.flatMap_cons]
    rw [← this]
    simp only [ecells, List.cons_append, List.nil_append]
    rw [show (i + 1) * 3 = i * 3 + 1 + 1 + 1 by omega]
    simp [Nat.add_assoc]
end Go.Proofs.Qxb6616716a
