import Derived.Test.Qxb6616714aRows
import Derived.WalkKit
import Derived.ProofKit
import Derived.OpenShut
import Derived.ShutString
import Derived.ChangeOld
import Derived.Below
import Derived.Deep.Slices
import Derived.Test.Qxb6616714aLeadClosed
import Derived.Test.Qxb6616714aTop
namespace Go.Proofs.Qxb6616714a.fnShouldLeadLockedOnlyTheLeastTakesOver
open Go.ChangeShapes Go.WideShapes Go.ChangeAt Go.RowKit Go.Deep
set_option linter.unusedVariables false

theorem own : ownKnob Try.prog.godebug = none := by kernel_rfl
theorem laidOut : laidOutB Try.prog = true := by kernel_rfl
theorem cells22 : Try.prog.cellsOf 22 = 1 := by kernel_rfl
theorem cells25 : Try.prog.cellsOf 25 = 1 := by kernel_rfl

theorem flat1 {α β : Type} (g : α → β) : ∀ l : List α, l.flatMap (fun x => [g x]) = l.map g
  | [] => rfl
  | x :: r => by simp [flat1 g r]

section
variable {H : Type} {enc : TypeId × Value → H} {w : World}

/-- a slice of numbers that came in -/
theorem open_nums {fuel : Nat} {cs : List Value} {x : DataW H × List MemPlace} (h : DataW.trod enc Try.prog w 0 (fun _ => true) true fuel 22 cs = some x) : ∃ v, ∃ l : List Nat, cs = [v] ∧ Nums w v l ∧ ∀ y ∈ l, y < 4294967296 := by
  rcases open_ints Try.underlying22 Try.underlying25 cells25 h with ⟨hcs, _⟩ | ⟨a, len, cap, zs, hcs, _, hl, hm, hz, _, hcell, hwz⟩
  · exact ⟨_, [], hcs, Nums_nil w, fun y hy => by cases hy⟩
  · simp at hz
    have hb : ∀ z ∈ zs, 0 ≤ z ∧ z ≤ 4294967295 := fun z hz => bounds_u32 (hwz z hz)
    have hlen : ((zs.take len).map Int.toNat).length = len := by simp; omega
    refine ⟨_, (zs.take len).map Int.toNat, hcs, ?_, fun y hy => ?_⟩
    · unfold Nums
      rw [hlen]
      refine ⟨some a, cap, rfl, hl, hm, (fun h => by cases h), fun ad hd j u hu => ?_⟩
      cases hd
      have hfl : ((zs.take len).map Int.toNat).flatMap u32c = ((zs.take len).map Int.toNat).map (fun n : Nat => Value.int .u32 (n : Int)) := flat1 _ _
      rw [hfl] at hu
      have hj : j < len := by
        have := (List.getElem?_eq_some_iff.1 hu).1
        rw [List.length_map, hlen] at this
        exact this
      have hjz : j < zs.length := by omega
      rw [hcell j hjz]
      have hw' := hb zs[j] (List.getElem_mem hjz)
      simp only [List.map_map, List.getElem?_map, List.getElem?_take, if_pos hj, List.getElem?_eq_getElem hjz, Option.map_some, Option.some.injEq, Function.comp] at hu
      rw [← hu]
      simp only [List.getD, List.getElem?_eq_getElem hjz, Option.getD_some, Option.some.injEq, Value.int.injEq, true_and]
      omega
    · obtain ⟨z, hz, rfl⟩ := List.mem_map.1 hy
      have := hb z (List.mem_of_mem_take hz)
      omega

/-- a slice of such slices that came in -/
theorem open_reps {fuel : Nat} {v : Value} {x : DataW H × List MemPlace} (h : DataW.trod enc Try.prog w 0 (fun _ => true) true fuel 23 [v] = some x) : ∃ rs : List Rep, Reps w v rs := by
  rcases open_slice Try.underlying23 h with ⟨hcs, _⟩ | ⟨a, len, cap, m, n, D, Pl, hcs, _, hl, hm, hmm, _, hx⟩
  · simp at hcs
    subst hcs
    exact ⟨[], ⟨none, 0, rfl, by simp, by unfold maxLen; omega, fun _ => ⟨rfl, rfl, rfl⟩, fun ad hd => by cases hd⟩, fun e he => by cases he⟩
  · simp at hcs hmm
    subst hcs
    subst hmm
    rw [cells22] at hx
    obtain ⟨X, hX⟩ := @choose_lt Rep ⟨⟨.nilFunc, []⟩⟩ len (fun i r => w.cell? (a.add i) = some r.v ∧ Nums w r.v r.l) (fun i hi => by
      obtain ⟨cs', h1, h2⟩ := hx i (by omega)
      obtain ⟨u, l, rfl, hn, _⟩ := open_nums h2
      obtain ⟨_, _, hc⟩ := World.cells?_some h1
      have := hc 0 (by omega)
      rw [Deep.add_add] at this
      exact ⟨⟨u, l⟩, by simpa using this, hn⟩)
    refine ⟨(List.range len).map X, ⟨?_, fun r hr => ?_⟩⟩
    · have hlen : ((List.range len).map X).length = len := by simp
      rw [hlen]
      refine ⟨some a, _, rfl, hl, hm, (fun h => by cases h), fun ad hd j u hu => ?_⟩
      cases hd
      have hfl : ((List.range len).map X).flatMap repc = ((List.range len).map X).map Rep.v := flat1 _ _
      rw [hfl] at hu
      have hj : j < len := by
        have := (List.getElem?_eq_some_iff.1 hu).1
        simpa using this
      rw [(hX j hj).1]
      simpa [hj] using hu
    · obtain ⟨i, hi, rfl⟩ := List.mem_map.1 hr
      exact (hX i (List.mem_range.1 hi)).2
end

set_option maxRecDepth 100000 in
theorem lifted (os : Os) (started : os.Started) (H : Type) (enc : TypeId × Value → H) :
    ReturnsInHanded {} Try.checked os 3 .any (Rows.fnShouldLeadLockedOnlyTheLeastTakesOverSpec.pre6 enc Try.prog Try.f3 Rows.fnShouldLeadLockedOnlyTheLeastTakesOverRow.domain false) (Rows.fnShouldLeadLockedOnlyTheLeastTakesOverSpec.post enc Try.prog Try.f3 false true false false) := by
  refine returnsInHanded_of_change (C := Try.checked) own started (by kernel_rfl) Try.func3
    (ChangeSpec.witness6 (enc := enc) (C := Try.checked) false ⟨#[], #[.slice none 0 0, .slice none 0 0, .int .i64 0, .int .i64 0, .bool false, .int .u64 0, .int .u32 0, .int .i64 0, .int .i64 0], []⟩ 8 (by kernel_rfl) (by kernel_rfl) (by kernel_rfl) (by kernel_rfl)) ?_
  intro W base args ds gs before hval0 hW hcnd _
  have hval : ∀ (j : Nat) t v, Try.f3.params[j]? = some t → args[j]? = some v → Value.okWide Try.prog W .any base t v := hval0
  have hW' := hW
  obtain ⟨p, q, hA0, hV, rfl, hfz, hnd⟩ := hW
  have hA : DataW.TrodAll enc Try.prog W 0 (fun _ => true) true Try.f3.params.toList args.toList ds p := hA0
  rw [Try.params3] at hA hval
  obtain ⟨v0, vs0, d0, ds0, p0, q0, hargs, rfl, rfl, h0, r0⟩ := trodAll_cons hA
  obtain ⟨v1, vs1, d1, ds1, p1, q1, rfl, rfl, rfl, h1, r1⟩ := trodAll_cons r0
  obtain ⟨v2, vs2, d2, ds2, p2, q2, rfl, rfl, rfl, h2, r2⟩ := trodAll_cons r1
  obtain ⟨v3, vs3, d3, ds3, p3, q3, rfl, rfl, rfl, h3, r3⟩ := trodAll_cons r2
  obtain ⟨v4, vs4, d4, ds4, p4, q4, rfl, rfl, rfl, h4, r4⟩ := trodAll_cons r3
  obtain ⟨v5, vs5, d5, ds5, p5, q5, rfl, rfl, rfl, h5, r5⟩ := trodAll_cons r4
  obtain ⟨v6, vs6, d6, ds6, p6, q6, rfl, rfl, rfl, h6, r6⟩ := trodAll_cons r5
  obtain ⟨v7, vs7, d7, ds7, p7, q7, rfl, rfl, rfl, h7, r7⟩ := trodAll_cons r6
  obtain ⟨v8, vs8, d8, ds8, p8, q8, rfl, rfl, rfl, h8, r8⟩ := trodAll_cons r7
  obtain ⟨rfl, rfl, rfl⟩ := trodAll_nil r8
  obtain rfl : args = #[v0, v1, v2, v3, v4, v5, v6, v7, v8] := by cases args; simp_all
  obtain ⟨rfl, rfl⟩ := trodVars_none hV
  obtain ⟨a0, len0, cap0, rfl⟩ := okWide_slice Try.underlying22 (hval 0 22 v0 rfl rfl)
  obtain ⟨a1, len1, cap1, rfl⟩ := okWide_slice Try.underlying23 (hval 1 23 v1 rfl rfl)
  have k0 := h0
  have k1 := h1
  have lt0 : ∀ x ∈ p0, x.block < W.heap.size := by obtain ⟨m, hm⟩ := k0; exact DataW.trod_lt m _ _ _ hm
  have lt1 : ∀ x ∈ p1, x.block < W.heap.size := by obtain ⟨m, hm⟩ := k1; exact DataW.trod_lt m _ _ _ hm
  obtain ⟨ms, hp, hl⟩ : ∃ ms : List Nat, Nums W (.slice a0 len0 cap0) ms ∧ ∀ x ∈ ms, x < 4294967296 := by
    obtain ⟨fuel, hf⟩ := h0
    obtain ⟨v, l, e, hn, hb⟩ := open_nums (by simpa [Value.cells] using hf)
    simp at e
    subst e
    exact ⟨l, hn, hb⟩
  obtain ⟨rs, hr⟩ : ∃ rs : List Rep, Reps W (.slice a1 len1 cap1) rs := by
    obtain ⟨fuel, hf⟩ := h1
    exact open_reps (by simpa [Value.cells] using hf)
  obtain ⟨size, rfl, rfl, rfl, w2⟩ := open_int Try.underlying3 (hval 2 3 v2 rfl rfl) h2
  obtain ⟨timeout, rfl, rfl, rfl, w3⟩ := open_int Try.underlying2 (hval 3 2 v3 rfl rfl) h3
  obtain ⟨known, rfl, rfl, rfl⟩ := open_bool Try.underlying4 (hval 4 4 v4 rfl rfl) h4
  obtain ⟨round, rfl, rfl, rfl, w5⟩ := open_int Try.underlying24 (hval 5 24 v5 rfl rfl) h5
  obtain ⟨lid, rfl, rfl, rfl, w6⟩ := open_int Try.underlying25 (hval 6 25 v6 rfl rfl) h6
  obtain ⟨since, rfl, rfl, rfl, w7⟩ := open_int Try.underlying2 (hval 7 2 v7 rfl rfl) h7
  obtain ⟨now, rfl, rfl, rfl, w8⟩ := open_int Try.underlying2 (hval 8 2 v8 rfl rfl) h8
  clear hA0 hval0
  have b2 : -9223372036854775808 ≤ size ∧ size ≤ 9223372036854775807 := bounds_i64 w2
  have b5 : 0 ≤ round ∧ round ≤ 18446744073709551615 := bounds_u64 w5
  have b6 : 0 ≤ lid ∧ lid ≤ 4294967295 := bounds_u32 w6
  have b7 : -9223372036854775808 ≤ since ∧ since ≤ 9223372036854775807 := bounds_i64 w7
  have b8 : -9223372036854775808 ≤ now ∧ now ≤ 9223372036854775807 := bounds_i64 w8
  obtain ⟨rnd, rfl⟩ : ∃ n : Nat, round = n := ⟨round.toNat, by omega⟩
  obtain ⟨ld, rfl⟩ : ∃ n : Nat, lid = n := ⟨lid.toNat, by omega⟩
  refine (top_any W _ _ ms rs size timeout since now known rnd ld hl hp hr b2.1 b2.2 (by omega) b7.1 b7.2 b8.1 b8.2).mono fun e W' ⟨he, bel⟩ => ?_
  subst he
  exact ⟨_, rfl, _, _, _, [], _, [], hW', trodAll_mk1 (shut_bool Try.underlying4 _), (trodAll_cons_mk (Below.trod laidOut (by kernel_rfl) (of_decide_eq_true (by kernel_rfl)) k0 bel lt0) (trodAll_cons_mk (Below.trod laidOut (by kernel_rfl) (of_decide_eq_true (by kernel_rfl)) k1 bel lt1) (trodAll_cons_mk (shut_int Try.underlying3 w2) (trodAll_cons_mk (shut_int Try.underlying2 w3) (trodAll_cons_mk (shut_bool Try.underlying4 _) (trodAll_cons_mk (shut_int Try.underlying24 w5) (trodAll_cons_mk (shut_int Try.underlying25 w6) (trodAll_cons_mk (shut_int Try.underlying2 w7) (trodAll_cons_mk (shut_int Try.underlying2 w8) trodAll_mk0))))))))), rfl, bel.frame _, fun h => by cases h⟩

theorem over : Rows.fnShouldLeadLockedOnlyTheLeastTakesOverRow.holds Try.pinned (OpenSpec.ofChange Rows.fnShouldLeadLockedOnlyTheLeastTakesOverSpec) :=
  OpenClaim.holds_of_wide 3 Try.f3 rfl rfl rfl rfl rfl rfl rfl ⟨rfl, rfl, rfl, rfl, rfl⟩ rfl rfl rfl rfl rfl (by as_aux_lemma => kernel_rfl) Try.func3 closed3
    (of_decide_eq_true (by as_aux_lemma => kernel_rfl)) (by unfold Func.isWrapper; first | (rw [if_pos (by decide +kernel)]; kernel_rfl) | (rw [if_neg (by decide +kernel)]; exact ⟨rfl, rfl⟩))
    (fun os started H enc _ => lifted os started H enc)

/-- THE STATEMENT -/
theorem proved : Rows.FnShouldLeadLockedOnlyTheLeastTakesOverSaid := over
end Go.Proofs.Qxb6616714a.fnShouldLeadLockedOnlyTheLeastTakesOver
