import Derived.Test.Qxb6616714aFwd
import Derived.ProofKit
import Derived.OpenShut
import Derived.Deep.Slices
import Derived.Deep.Strs
namespace Go.Proofs.Qxb6616714a
open Go.RowKit Go.Deep Go.ChangeShapes Go.WideShapes Go.ChangeAt

theorem cells5 : Try.prog.cellsOf 5 = 1 := by kernel_rfl
theorem cells4 : Try.prog.cellsOf 4 = 1 := by kernel_rfl
theorem cells9 : Try.prog.cellsOf 9 = 1 := by kernel_rfl
theorem cells24 : Try.prog.cellsOf 24 = 1 := by kernel_rfl
theorem cells25 : Try.prog.cellsOf 25 = 1 := by kernel_rfl
theorem cells2 : Try.prog.cellsOf 2 = 1 := by kernel_rfl
theorem cells34 : Try.prog.cellsOf 34 = 1 := by kernel_rfl
theorem cells48 : Try.prog.cellsOf 48 = 1 := by kernel_rfl
theorem cells49 : Try.prog.cellsOf 49 = 1 := by kernel_rfl
theorem cells51 : Try.prog.cellsOf 51 = 12 := by kernel_rfl
theorem cells92 : Try.prog.cellsOf 92 = 3 := by kernel_rfl

theorem Rd_of_elems {α : Type} (f : α → List Value) (size : Nat) (hf : ∀ x, (f x).length = size) (hs : 0 < size) {w : World} {a : Addr} {len cap : Nat} (hl : len ≤ cap) (hm : cap ≤ maxLen) (X : Nat → α)
    (hX : ∀ i, i < len → ∀ j u, (f (X i))[j]? = some u → w.cell? (a.add (i * size + j)) = some u) :
    Rd w (.slice (some a) len cap) ((List.range len).map X).length (((List.range len).map X).flatMap f) := by
  have hlen : ((List.range len).map X).length = len := by simp
  rw [hlen]
  refine ⟨some a, cap, rfl, hl, hm, (fun h => by cases h), fun ad hd j u hu => ?_⟩
  cases hd
  have hj : j < len * size := by
    have := (List.getElem?_eq_some_iff.1 hu).1
    rwa [flat_len f size hf, hlen] at this
  have hi : j / size < len := Nat.div_lt_of_lt_mul (by rw [Nat.mul_comm]; exact hj)
  have hj2 : j = j / size * size + j % size := by rw [Nat.mul_comm]; exact (Nat.div_add_mod j size).symm
  rw [hj2, flat_cell f size hf _ (j / size) (by rw [hlen]; exact hi) (j % size) (Nat.mod_lt _ hs)] at hu
  have hu' : (f (X (j / size)))[j % size]? = some u := by simpa using hu
  have := hX (j / size) hi (j % size) u hu'
  rwa [← hj2] at this

theorem list3 {α : Type} {l : List α} (h : l.length = 3) : ∃ a b c, l = [a, b, c] := by
  match l, h with
  | [a, b, c], _ => exact ⟨a, b, c, rfl⟩
theorem list12 {α : Type} {l : List α} (h : l.length = 12) : ∃ a b c d e f g i j k m n, l = [a, b, c, d, e, f, g, i, j, k, m, n] := by
  match l, h with
  | [a, b, c, d, e, f, g, i, j, k, m, n], _ => exact ⟨a, b, c, d, e, f, g, i, j, k, m, n, rfl⟩

section
variable {H : Type} {enc : TypeId × Value → H} {w : World}

/-- a slice of bytes that came in -/
theorem open_bytes {fuel : Nat} {v : Value} {x : DataW H × List MemPlace} (h : DataW.trod enc Try.prog w 0 (fun _ => true) true fuel 34 [v] = some x) : ∃ l : List UInt8, Rd w v l.length (byteCells l) := by
  rcases open_ints Try.underlying34 Try.underlying5 cells5 h with ⟨hcs, _⟩ | ⟨a, len, cap, zs, hcs, _, hl, hm, hz, _, hcell, hwz⟩
  · simp at hcs
    subst hcs
    exact ⟨[], none, 0, rfl, by simp, by unfold maxLen; omega, fun _ => ⟨rfl, rfl, rfl⟩, fun ad hd => by cases hd⟩
  · simp at hcs hz
    subst hcs
    refine ⟨(zs.take len).map fun z => z.toNat.toUInt8, ?_⟩
    have hlen : ((zs.take len).map fun z => z.toNat.toUInt8).length = len := by simp; omega
    rw [hlen]
    refine ⟨some a, cap, rfl, hl, hm, (fun h => by cases h), fun ad hd j u hu => ?_⟩
    cases hd
    have hj : j < len := by
      have := (List.getElem?_eq_some_iff.1 hu).1
      rwa [byteCells_length, hlen] at this
    have hjz : j < zs.length := by omega
    rw [hcell j hjz]
    have hw := hwz zs[j] (List.getElem_mem hjz)
    have hw' : 0 ≤ zs[j] ∧ zs[j] ≤ 255 := bounds_u8 hw
    simp only [byteCells, List.map_map, List.getElem?_map, List.getElem?_take, if_pos hj, List.getElem?_eq_getElem hjz, Option.map_some, Option.some.injEq, Function.comp] at hu
    rw [← hu]
    simp only [List.getD, List.getElem?_eq_getElem hjz, Option.getD_some, Option.some.injEq, Value.int.injEq, true_and]
    simp
    omega

/-- a slice of strings that came in -/
theorem open_keys {fuel : Nat} {v : Value} {x : DataW H × List MemPlace} (h : DataW.trod enc Try.prog w 0 (fun _ => true) true fuel 49 [v] = some x) : ∃ l : List ByteArray, Rd w v l.length (l.flatMap keyCells) := by
  rcases open_strs Try.underlying49 Try.underlying9 cells9 h with ⟨hcs, _⟩ | ⟨a, len, cap, m, Sx, hcs, _, hl, hm, hmm, _, hcell⟩
  · simp at hcs
    subst hcs
    exact ⟨[], none, 0, rfl, by simp, by unfold maxLen; omega, fun _ => ⟨rfl, rfl, rfl⟩, fun ad hd => by cases hd⟩
  · simp at hcs hmm
    subst hcs
    subst hmm
    refine ⟨(List.range len).map Sx, Rd_of_elems keyCells 1 (fun _ => rfl) (by omega) hl hm Sx fun i hi j u hu => ?_⟩
    match j, hu with
    | 0, hu =>
      simp [keyCells] at hu
      subst hu
      have := (hcell i (by omega)).1
      simpa using this

theorem open_ent {fuel : Nat} {cs : List Value} {x : DataW H × List MemPlace} (h : DataW.trod enc Try.prog w 0 (fun _ => true) true fuel 92 cs = some x) : ∃ e : Ent, cs = inEnt e ∧ e.ok w := by
  obtain ⟨xs, n, _, _, hl, hxl, hf⟩ := DataW.trod_struct Try.underlying92 h
  rw [cells92] at hl
  have hx3 : xs.length = 3 := hxl
  obtain ⟨c0, c1, c2, rfl⟩ := list3 hl
  obtain ⟨y0, y1, y2, rfl⟩ := list3 hx3
  clear hl hxl hx3
  · skip
    have f0 := hf 0 _ rfl
    have f1 := hf 1 _ rfl
    have f2 := hf 2 _ rfl
    simp [cells9] at f0
    simp [cells24] at f1
    simp [cells34] at f2
    obtain ⟨s, e0, _⟩ := DataW.trod_string Try.underlying9 f0
    obtain ⟨r, e1, _, wr⟩ := DataW.trod_int Try.underlying24 f1
    obtain ⟨l, hr⟩ := open_bytes f2
    simp at e0 e1
    subst e0 e1
    have hb : 0 ≤ r ∧ r ≤ 18446744073709551615 := bounds_u64 wr
    refine ⟨⟨s, r.toNat, c2, l⟩, ?_, hr, by simp only; omega⟩
    simp only [inEnt, List.cons.injEq, and_true, true_and, Value.int.injEq]
    omega

theorem open_ents {fuel : Nat} {v : Value} {x : DataW H × List MemPlace} (h : DataW.trod enc Try.prog w 0 (fun _ => true) true fuel 48 [v] = some x) : ∃ es : List Ent, Rd w v es.length (es.flatMap inEnt) ∧ ∀ e ∈ es, e.ok w := by
  rcases open_slice Try.underlying48 h with ⟨hcs, _⟩ | ⟨a, len, cap, m, n, D, Pl, hcs, _, hl, hm, hmm, _, hx⟩
  · simp at hcs
    subst hcs
    exact ⟨[], ⟨none, 0, rfl, by simp, by unfold maxLen; omega, fun _ => ⟨rfl, rfl, rfl⟩, fun ad hd => by cases hd⟩, fun e he => by cases he⟩
  · simp at hcs hmm
    subst hcs
    subst hmm
    rw [cells92] at hx
    obtain ⟨X, hX⟩ := @choose_lt Ent ⟨⟨ByteArray.empty, 0, .nilFunc, []⟩⟩ len (fun i e => (∀ j u, (inEnt e)[j]? = some u → w.cell? (a.add (i * 3 + j)) = some u) ∧ e.ok w) (fun i hi => by
      obtain ⟨cs', h1, h2⟩ := hx i (by omega)
      obtain ⟨e, rfl, he⟩ := open_ent h2
      obtain ⟨_, _, hc⟩ := World.cells?_some h1
      refine ⟨e, fun j u hu => ?_, he⟩
      have hj : j < 3 := (List.getElem?_eq_some_iff.1 hu).1
      rw [← Deep.add_add, hc j hj, hu])
    refine ⟨(List.range len).map X, Rd_of_elems inEnt 3 (fun _ => rfl) (by omega) hl hm X (fun i hi => (hX i hi).1), fun e he => ?_⟩
    obtain ⟨i, hi, rfl⟩ := List.mem_map.1 he
    exact (hX i (List.mem_range.1 hi)).2

theorem open_ans {fuel : Nat} {cs : List Value} {x : DataW H × List MemPlace} (h : DataW.trod enc Try.prog w 0 (fun _ => true) true fuel 51 cs = some x) : ∃ a : Ans, cs = inCells a ∧ a.okI w := by
  obtain ⟨xs, n, _, _, hl, hxl, hf⟩ := DataW.trod_struct Try.underlying51 h
  rw [cells51] at hl
  have hx12 : xs.length = 12 := hxl
  obtain ⟨c0, c1, c2, c3, c4, c5, c6, c7, c8, c9, c10, c11, rfl⟩ := list12 hl
  obtain ⟨y0, y1, y2, y3, y4, y5, y6, y7, y8, y9, y10, y11, rfl⟩ := list12 hx12
  clear hl hxl hx12
  · skip
    have f0 := hf 0 _ rfl
    have f1 := hf 1 _ rfl
    have f2 := hf 2 _ rfl
    have f3 := hf 3 _ rfl
    have f4 := hf 4 _ rfl
    have f5 := hf 5 _ rfl
    have f6 := hf 6 _ rfl
    have f7 := hf 7 _ rfl
    have f8 := hf 8 _ rfl
    have f9 := hf 9 _ rfl
    have f10 := hf 10 _ rfl
    have f11 := hf 11 _ rfl
    simp [cells5] at f0
    simp [cells4] at f1 f5 f10
    simp [cells24] at f2 f4 f7
    simp [cells34] at f3
    simp [cells48] at f6
    simp [cells25] at f8
    simp [cells2] at f9
    simp [cells49] at f11
    obtain ⟨code, e0, _, w0⟩ := DataW.trod_int Try.underlying5 f0
    obtain ⟨found, e1, _⟩ := DataW.trod_bool Try.underlying4 f1
    obtain ⟨rev, e2, _, w2⟩ := DataW.trod_int Try.underlying24 f2
    obtain ⟨l3, h3⟩ := open_bytes f3
    obtain ⟨prev, e4, _, w4⟩ := DataW.trod_int Try.underlying24 f4
    obtain ⟨pmore, e5, _⟩ := DataW.trod_bool Try.underlying4 f5
    obtain ⟨es, h6, h6e⟩ := open_ents f6
    obtain ⟨lid, e7, _, w7⟩ := DataW.trod_int Try.underlying24 f7
    obtain ⟨ttl, e8, _, w8⟩ := DataW.trod_int Try.underlying25 f8
    obtain ⟨rem, e9, _, w9⟩ := DataW.trod_int Try.underlying2 f9
    obtain ⟨lmore, e10, _⟩ := DataW.trod_bool Try.underlying4 f10
    obtain ⟨ks, h11⟩ := open_keys f11
    simp at e0 e1 e2 e4 e5 e7 e8 e9 e10
    subst e0 e1 e2 e4 e5 e7 e8 e9 e10
    have b0 : 0 ≤ code ∧ code ≤ 255 := bounds_u8 w0
    have b2 : 0 ≤ rev ∧ rev ≤ 18446744073709551615 := bounds_u64 w2
    have b4 : 0 ≤ prev ∧ prev ≤ 18446744073709551615 := bounds_u64 w4
    have b7 : 0 ≤ lid ∧ lid ≤ 18446744073709551615 := bounds_u64 w7
    have b8 : 0 ≤ ttl ∧ ttl ≤ 4294967295 := bounds_u32 w8
    have b9 : -9223372036854775808 ≤ rem ∧ rem ≤ 9223372036854775807 := bounds_i64 w9
    refine ⟨⟨code.toNat, found, rev.toNat, c3, l3, prev.toNat, pmore, c6, es, lid.toNat, ttl.toNat, rem, lmore, c11, ks⟩, ?_, ?_⟩
    · simp only [inCells, List.cons.injEq, and_true, true_and, Value.int.injEq]
      omega
    · exact ⟨by simp only; omega, by simp only; omega, h3, by simp only; omega, h6, h6e, by simp only; omega, by simp only; omega, b9.1, b9.2, h11⟩

theorem open_answers {fuel : Nat} {v : Value} {x : DataW H × List MemPlace} (h : DataW.trod enc Try.prog w 0 (fun _ => true) true fuel 41 [v] = some x) : ∃ xs : List Ans, Rd w v xs.length (xs.flatMap inCells) ∧ ∀ a ∈ xs, a.okI w := by
  rcases open_slice Try.underlying41 h with ⟨hcs, _⟩ | ⟨a, len, cap, m, n, D, Pl, hcs, _, hl, hm, hmm, _, hx⟩
  · simp at hcs
    subst hcs
    exact ⟨[], ⟨none, 0, rfl, by simp, by unfold maxLen; omega, fun _ => ⟨rfl, rfl, rfl⟩, fun ad hd => by cases hd⟩, fun e he => by cases he⟩
  · simp at hcs hmm
    subst hcs
    subst hmm
    rw [cells51] at hx
    obtain ⟨X, hX⟩ := @choose_lt Ans ⟨⟨0, false, 0, .nilFunc, [], 0, false, .nilFunc, [], 0, 0, 0, false, .nilFunc, []⟩⟩ len (fun i e => (∀ j u, (inCells e)[j]? = some u → w.cell? (a.add (i * 12 + j)) = some u) ∧ e.okI w) (fun i hi => by
      obtain ⟨cs', h1, h2⟩ := hx i (by omega)
      obtain ⟨e, rfl, he⟩ := open_ans h2
      obtain ⟨_, _, hc⟩ := World.cells?_some h1
      refine ⟨e, fun j u hu => ?_, he⟩
      have hj : j < 12 := (List.getElem?_eq_some_iff.1 hu).1
      rw [← Deep.add_add, hc j hj, hu])
    refine ⟨(List.range len).map X, Rd_of_elems inCells 12 (fun _ => rfl) (by omega) hl hm X (fun i hi => (hX i hi).1), fun e he => ?_⟩
    obtain ⟨i, hi, rfl⟩ := List.mem_map.1 he
    exact (hX i (List.mem_range.1 hi)).2
end
end Go.Proofs.Qxb6616714a
