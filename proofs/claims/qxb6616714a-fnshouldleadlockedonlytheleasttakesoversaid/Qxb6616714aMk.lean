import Derived.Test.Qxb6616714aPre
namespace Go.Proofs.Qxb6616714a
open Go.RowKit Go.Maps

/-- what a map's datum holds can be read -/
def GoodD (w : World) (D : DataW Value) : Prop := ∀ p : Nat, p < 4294967296 → ∃ l : List Nat, ∀ v, D.atKey (.int .u32 p) (.held (.slice none 0 0)) = .held v → Nums w v l

theorem Nums_nil (w : World) : Nums w (.slice none 0 0) [] := ⟨none, 0, rfl, by simp, by unfold maxLen; omega, fun _ => ⟨rfl, rfl, rfl⟩, fun ad hd => by cases hd⟩
theorem GoodD.start (w : World) : GoodD w (.map []) := fun p _ => ⟨[], fun v hv => by
  have : (DataW.held (.slice none 0 0) : DataW Value) = .held v := hv
  cases this
  exact Nums_nil w⟩
theorem GoodD.put {w : World} {D : DataW Value} (h : GoodD w D) (hD : IsMap D) {x : Nat} (hx : x < 4294967296) {v : Value} {l : List Nat} (hv : Nums w v l) : GoodD w (D.put (.int .u32 x) (.held v)) := by
  intro p hp
  by_cases e : p = x
  · subst e
    refine ⟨l, fun u hu => ?_⟩
    rw [atKey_put_same hD (by trivial)] at hu
    cases hu
    exact hv
  · obtain ⟨l', h'⟩ := h p hp
    refine ⟨l', fun u hu => h' u ?_⟩
    rwa [atKey_put_other (fun h => e (by simp only [Lit.int.injEq] at h; omega))] at hu

theorem MapAt.of_good {w : World} {b n : Nat} {D : DataW Value} (h : w.ownsMap Try.prog 25 hvR b n D) (hg : GoodD w D) : ∃ f, MapAt w (.map (some b)) f := by
  refine ⟨fun p => if hp : p < 4294967296 then Classical.choose (hg p hp) else [], b, n, D, rfl, h, fun p hp v hv => ?_⟩
  have := Classical.choose_spec (hg p hp) v hv
  simpa [hp] using this

theorem run_makeMapN (n : Int) (w : World) : (Instr.makeMap 28 (some (.int .i64 n))).run Try.prog w = .ok (.map (some w.heap.size)) (w.alloc (.map #[] 0)) := by
  simp [Instr.makeMap, run_underlying Try.underlying28, Result.andThen]
  rfl

def MapPost (w : World) (e : Ending) (w' : World) : Prop := ∃ v f, e = .returned v ∧ MapAt w' v f ∧ Below w.heap.size w w'

theorem GoodD.later {w w' : World} {D : DataW Value} (h : GoodD w D) (hb : Below w.heap.size w w') : GoodD w' D := fun p hp => by
  obtain ⟨l, hl⟩ := h p hp
  exact ⟨l, fun v hv => (hl v hv).later hb⟩

set_option maxHeartbeats 4000000 in
set_option maxRecDepth 20000 in
theorem zzMap_any (w : World) (mv rv : Value) (ms : List Nat) (rs : List Rep) (hl : ∀ x ∈ ms, x < 4294967296) (hlen : ms.length ≤ 65536) (hm : Nums w mv ms) (hr : Reps w rv rs) :
    Calls Try.prog 11 #[mv, rv] w fun e w' => MapPost w e w' := by
  have HM : Hid (Nums w mv ms) := hm
  have HR : Hid (Reps w rv rs) := hr
  have HL : Hid (∀ x ∈ ms, x < 4294967296) := hl
  obtain ⟨hr1, hr2⟩ := hr
  obtain ⟨ao, cap, rfl, g1, g2, g3, g4⟩ := hm
  obtain ⟨ao', cap', rfl, k1, k2, k3, k4⟩ := hr1
  clear g3 g4 k3 k4 hr2 hl
  unfold maxLen at g2 k2
  have hmm := run_makeMapN
  go_enter Try.func11, Try.ntmps11
  go_wp2
  clear hmm
  go_loopw [12] (fun i wr => ∃ k : Nat, k ≤ ms.length ∧ i = .int .i64 k ∧ Hid (∃ D, wr.ownsMap Try.prog 25 hvR w.heap.size k D ∧ GoodD w D) ∧ Hid (Below w.heap.size w wr)) (fun i _ => ms.length - (intOf i).toNat)
  case atStart => exact ⟨0, by omega, by go_num, ⟨_, World.ownsMap_made w _ _ _, GoodD.start w⟩, (Below.refl _ _).alloc (Nat.le_refl _) _⟩
  case round =>
    obtain ⟨k, hk, rfl, hD, hbel⟩ := hrel
    by_cases hlt : k < ms.length
    case neg =>
      go_wp2
      go_ret
      obtain ⟨D, hown, hg⟩ := hD.out
      obtain ⟨f, hf⟩ := MapAt.of_good hown (hg.later hbel.out)
      exact ⟨_, f, rfl, hf, hbel.out⟩
    by_cases hlt2 : k < rs.length
    case neg =>
      go_wp2
      go_roundw
      case rel =>
        obtain ⟨D, hown, hg⟩ := hD.out
        exact ⟨k + 1, by omega, by go_num, ⟨D, hown.mono (by omega), hg⟩, hbel⟩
      case measure => simp [intOf]; omega
    obtain ⟨b, off, cap2, hv, q1, q2, hcell⟩ := HM.out.elem (by omega)
    simp only [Value.slice.injEq, true_and] at hv
    obtain ⟨rfl, rfl⟩ := hv
    have hc0 := hcell k hlt
    have hc := (hbel.out.cell (World.block_lt_of_cell? w _ hc0)).trans hc0
    have hb := HL.out _ (List.getElem_mem hlt)
    clear hcell hc0
    obtain ⟨b', off', cap3, hv, p1, p2, hcell⟩ := HR.out.elem (by omega)
    simp only [Value.slice.injEq, true_and] at hv
    obtain ⟨rfl, rfl⟩ := hv
    have hc0 := hcell k hlt2
    have hc2 := (hbel.out.cell (World.block_lt_of_cell? w _ hc0)).trans hc0
    have hnum : Hid (Nums w rs[k].v rs[k].l) := HR.out.each _ (List.getElem_mem hlt2)
    obtain ⟨ao2, n2, cap4, hv2⟩ : ∃ ao2 n2 cap4, rs[k].v = .slice ao2 n2 cap4 := by
      obtain ⟨ao2, cap4, hv2, _⟩ := hnum.out
      exact ⟨_, _, _, hv2⟩
    rw [hv2] at hc2
    have HV2 : Hid (rs[k].v = .slice ao2 n2 cap4) := hv2
    clear hcell hc0 hv2
    obtain ⟨w', hrun, hx⟩ : ∃ w', (Instr.mapUpdate 28 (.map (some w.heap.size)) (.int .u32 ms[k]) (.slice ao2 n2 cap4)).run Try.prog wr.drew = .ok () w' ∧ Hid ((∃ D, w'.ownsMap Try.prog 25 hvR w.heap.size (k + 1) D ∧ GoodD w D) ∧ Below w.heap.size w w') := by
      obtain ⟨D, hown, hg⟩ := hD.out
      obtain ⟨w', h1, h2, h3⟩ := hown.drew.update (t := 28) (e := 22) law25 Try.underlying28 (by unfold maxLen; omega) (key25 hb) (val := .slice ao2 n2 cap4) rfl
      refine ⟨w', h1, ⟨_, h2, ?_⟩, hbel.out.drew.grown h3 hbel.out.size (fun j hj => by cases hj; exact Nat.le_refl _)⟩
      refine hg.put hown.isMap hb (l := rs[k].l) ?_
      have := hnum.out
      rwa [HV2.out] at this
    clear hnum HV2 hD
    go_wp2
    go_region
    go_wp2
    go_roundw
    case rel => exact ⟨k + 1, by omega, by go_num, hx.out.1, hx.out.2⟩
    case measure => simp [intOf]; omega
end Go.Proofs.Qxb6616714a
