import Derived.Test.Qxb6616714aLeaf
namespace Go.Proofs.Qxb6616714a
open Go.RowKit

/-- one entry, its value's slice with it -/
structure Ent where
  key : ByteArray
  rev : Nat
  vv : Value
  val : List UInt8

/-- one answer, its slices with it -/
structure Ans where
  code : Nat
  found : Bool
  rev : Nat
  vv : Value
  val : List UInt8
  prev : Nat
  pmore : Bool
  ev : Value
  ents : List Ent
  lid : Nat
  ttl : Nat
  rem : Int
  lmore : Bool
  kv : Value
  keys : List ByteArray

def flagB (b : Bool) : List UInt8 := [if b then 1 else 0]
def strB (s : ByteArray) : List UInt8 := Lib.uvarint s.size ++ s.data.toList
def bytesB (l : List UInt8) : List UInt8 := Lib.uvarint l.length ++ l

def encEnt (e : Ent) : List UInt8 := strB e.key ++ Lib.uvarint e.rev ++ bytesB e.val
def encPage (prev : Nat) (more : Bool) (es : List Ent) : List UInt8 := Lib.uvarint prev ++ flagB more ++ Lib.uvarint es.length ++ es.flatMap encEnt
def msOf (r : Int) : Nat := (max (r.tdiv 1000000) 0).toNat
def encLease (lid ttl : Nat) (rem : Int) (more : Bool) (keys : List ByteArray) : List UInt8 :=
  Lib.uvarint lid ++ Lib.uvarint ttl ++ Lib.uvarint (msOf rem) ++ flagB more ++ Lib.uvarint keys.length ++ keys.flatMap strB
def encRest (a : Ans) : List UInt8 :=
  if a.code = 0 then flagB a.found ++ Lib.uvarint a.rev ++ bytesB a.val
  else if a.code = 2 then bytesB a.val
  else if a.code = 4 ∨ a.code = 6 then Lib.uvarint a.rev
  else if a.code = 5 then encPage a.prev a.pmore a.ents
  else if a.code = 7 then Lib.uvarint a.rev ++ encLease a.lid a.ttl a.rem a.lmore a.keys
  else []
def encAns (a : Ans) : List UInt8 := a.code.toUInt8 :: encRest a
def encAll (xs : List Ans) : List UInt8 := 24 :: (Lib.uvarint xs.length ++ xs.flatMap encAns)

/-- an entry as it lies in a page (type 138) -/
def entCells (e : Ent) : List Value := [.string e.key, e.vv, .int .u64 e.rev]
def Ent.ok (w : World) (e : Ent) : Prop := Rd w e.vv e.val.length (byteCells e.val) ∧ e.rev < 18446744073709551616

/-! ### Bounds -/
def entW (e : Ent) : Nat := 48 + e.key.size + e.val.length
def entsW : List Ent → Nat
  | [] => 0
  | e :: r => entW e + entsW r
def keysW : List ByteArray → Nat
  | [] => 0
  | s :: r => 16 + s.size + keysW r

theorem encEnt_len (e : Ent) (h1 : entW e ≤ 137438953472) (h2 : e.rev < 18446744073709551616) : (encEnt e).length ≤ entW e := by
  unfold entW at *
  have a := Lib.uvarint_length64 (x := e.key.size) (by omega)
  have b := Lib.uvarint_length64 (x := e.rev) (by omega)
  have c := Lib.uvarint_length64 (x := e.val.length) (by omega)
  simp only [encEnt, strB, bytesB, List.length_append, Array.length_toList]
  have : e.key.data.size = e.key.size := rfl
  omega
theorem entsW_take (es : List Ent) : ∀ k, entsW (es.take k) ≤ entsW es := by
  induction es with
  | nil => intro k; simp
  | cons e r ih =>
    intro k
    cases k with
    | zero => simp [entsW]
    | succ k => simp only [List.take_succ_cons, entsW]; have := ih k; omega
theorem ents_len (es : List Ent) (h1 : entsW es ≤ 137438953472) (h2 : ∀ e ∈ es, e.rev < 18446744073709551616) : (es.flatMap encEnt).length ≤ entsW es := by
  induction es with
  | nil => simp
  | cons e r ih =>
    simp only [List.flatMap_cons, List.length_append, entsW] at *
    have := encEnt_len e (by omega) (h2 e (by simp))
    have := ih (by omega) (fun x hx => h2 x (by simp [hx]))
    omega
theorem entsW_len (es : List Ent) : es.length ≤ entsW es := by
  induction es with
  | nil => simp
  | cons e r ih => simp only [List.length_cons, entsW, entW] at *; omega
theorem entsW_split (es : List Ent) : ∀ k (h : k < es.length), entsW (es.take k) + entW es[k] ≤ entsW es := by
  induction es with
  | nil => intro k h; simp at h
  | cons e r ih =>
    intro k h
    cases k with
    | zero => simp [entsW]
    | succ k => simp only [List.take_succ_cons, entsW, List.getElem_cons_succ]; have := ih k (by simpa using h); omega
theorem flat_take {α β : Type} (f : α → List β) (es : List α) (k : Nat) (h : k < es.length) : (es.take (k + 1)).flatMap f = (es.take k).flatMap f ++ f es[k] := by
  rw [List.take_succ_eq_append_getElem h, List.flatMap_append]
  simp

/-- the cells of element k of a row whose elements have 'size' cells each -/
theorem flat_cell {α : Type} (f : α → List Value) (size : Nat) (hf : ∀ x, (f x).length = size) (es : List α) : ∀ (k : Nat) (h : k < es.length) (j : Nat), j < size → (es.flatMap f)[k * size + j]? = (f es[k])[j]? := by
  induction es with
  | nil => intro k h; simp at h
  | cons e r ih =>
    intro k h j hj
    rw [List.flatMap_cons]
    cases k with
    | zero => rw [List.getElem?_append_left (by rw [hf]; omega)]; simp
    | succ k =>
      rw [List.getElem?_append_right (by rw [hf, Nat.succ_mul]; omega), hf, show (k + 1) * size + j - size = k * size + j by rw [Nat.succ_mul]; omega, ih k (by simpa using h) j hj]
      simp
theorem flat_len {α : Type} (f : α → List Value) (size : Nat) (hf : ∀ x, (f x).length = size) (es : List α) : (es.flatMap f).length = es.length * size := by
  induction es with
  | nil => simp
  | cons e r ih => rw [List.flatMap_cons, List.length_append, hf, ih, List.length_cons, Nat.succ_mul]; omega

/-- a slice of elements of 'size' cells, at element k: its block, and where the cells lie -/
theorem Rd.elem {α : Type} {f : α → List Value} {size : Nat} (hf : ∀ x, (f x).length = size) (hs : 0 < size) {es : List α} {w : World} {v : Value} (h : Rd w v es.length (es.flatMap f)) (h0 : 0 < es.length) :
    ∃ b off cap, v = .slice (some ⟨b, off, none⟩) es.length cap ∧ es.length ≤ cap ∧ cap ≤ maxLen ∧ ∀ k (hk : k < es.length) j u, (f es[k])[j]? = some u → w.cell? ⟨b, off + (k * size + j), none⟩ = some u := by
  obtain ⟨ao, cap, rfl, h1, h2, h3, h4⟩ := h
  cases ao with
  | none => have := (h3 rfl).1; omega
  | some ad =>
    obtain ⟨b, off, spot⟩ := ad
    have hsp : spot = none := by
      have hl := flat_len f size hf es
      have hpos : 0 < (es.flatMap f).length := by rw [hl]; exact Nat.mul_pos h0 hs
      have := h4 _ rfl 0 _ (List.getElem?_eq_getElem hpos)
      cases spot with
      | none => rfl
      | some x => simp [Addr.add, World.cell?] at this; split at this <;> simp_all
    subst hsp
    refine ⟨b, off, cap, rfl, h1, h2, fun k hk j u hu => ?_⟩
    have hj : j < size := by have := (List.getElem?_eq_some_iff.1 hu).1; rwa [hf] at this
    have := h4 _ rfl (k * size + j) u (by rw [flat_cell f size hf es k hk j hj]; exact hu)
    rwa [show (⟨b, off, none⟩ : Addr).add (k * size + j) = ⟨b, off + (k * size + j), none⟩ by unfold Addr.add; split <;> simp_all] at this

/-! ### The state of an encoder in mid-walk: the buffer, what became of the world since the start, a box of its own, old memory -/
structure St (w0 w : World) (v : Value) (bx T : Nat) (cs : Array Value) (wk : World) (vk : Value) (lk : List UInt8) : Prop where
  buf : Buf wk w0.heap.size vk lk
  app : App w v wk vk
  box : wk.heap[bx]? = some (.cells cs T (0, 0))
  old : Below w0.heap.size w0 wk
section
variable {w0 w : World} {v : Value} {bx T : Nat} {cs : Array Value} {wk : World} {vk : Value} {lk : List UInt8}
theorem St.size (h : St w0 w v bx T cs wk vk lk) : w0.heap.size ≤ wk.heap.size := h.old.size
theorem St.step (h : St w0 w v bx T cs wk vk lk) (hT : T ≠ 5) {w' : World} {v' : Value} {l' : List UInt8} (hb : Buf w' w0.heap.size v' l') (ha : App wk vk w' v') : St w0 w v bx T cs w' v' l' :=
  ⟨hb, h.app.trans ha, App.block h.buf ha hT h.box, h.old.trans (App.below h.buf ha h.size)⟩
theorem St.cell (h : St w0 w v bx T cs wk vk lk) (j : Nat) (u : Value) (hu : cs[j]? = some u) : wk.cell? ⟨bx, j, none⟩ = some u := cells_of_block h.box j u hu
theorem St.free (h : St w0 w v bx T cs wk vk lk) (j : Nat) : wk.frozen? ⟨bx, j, none⟩ = false := by simp [World.frozen?, h.box]
theorem St.drew (h : St w0 w v bx T cs wk vk lk) : St w0 w v bx T cs wk.drew vk lk := ⟨h.buf, h.app.trans (App.drew _ _), h.box, h.old.drew⟩
/-- the start: the box is laid -/
theorem St.start {w' : World} (hb : Buf w w0.heap.size v lk) (h0 : Below w0.heap.size w0 w) (hn : Below w.heap.size w w') (hx : w'.heap[bx]? = some (.cells cs T (0, 0))) : St w0 w v bx T cs w' v lk :=
  ⟨hb.later hn, App.of_below v hn, hx, h0.trans (hn.mono h0.size)⟩
/-- a byte slice of old memory, asked for now -/
theorem St.rd (h : St w0 w v bx T cs wk vk lk) {u : Value} {n : Nat} {xs : List Value} (hu : Rd w0 u n xs) : Rd wk u n xs := hu.later h.old
theorem St.apart (h : St w0 w v bx T cs wk vk lk) {u : Value} {n : Nat} {xs : List Value} (hu : Rd w0 u n xs) : ∀ k, u.ownBlock = some k → xs ≠ [] → vk.ownBlock ≠ some k := by
  intro k hk hx e
  have h1 := hu.lt hx hk
  have h2 := h.buf.lt k e
  omega
end
end Go.Proofs.Qxb6616714a
