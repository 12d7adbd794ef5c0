import Derived.Test.Qxb6616714aSmall
import Derived.Deep.QuietTactic
import Derived.BigQuiet
import Derived.WalkSmall
namespace Go.Proofs.Qxb6616714a
open Go.RowKit

theorem entsW_snoc (xs : List Ent) (k : Nat) (h : k < xs.length) : entsW (xs.take (k + 1)) = entsW (xs.take k) + entW xs[k] := by
  have app : ∀ a b : List Ent, entsW (a ++ b) = entsW a + entsW b := by
    intro a b
    induction a with
    | nil => simp [entsW]
    | cons x r ih => simp only [List.cons_append, entsW, ih]; omega
  rw [List.take_succ_eq_append_getElem h, app]
  simp [entsW]
theorem keysW_snoc (xs : List ByteArray) (k : Nat) (h : k < xs.length) : keysW (xs.take (k + 1)) = keysW (xs.take k) + (16 + xs[k].size) := by
  have app : ∀ a b : List ByteArray, keysW (a ++ b) = keysW a + keysW b := by
    intro a b
    induction a with
    | nil => simp [keysW]
    | cons x r ih => simp only [List.cons_append, keysW, ih]; omega
  rw [List.take_succ_eq_append_getElem h, app]
  simp [keysW]

def BigPost (xs : List Ans) (w : World) (e : Ending) (w' : World) : Prop := ∃ B, e = .returned (.bool B) ∧ Below w.heap.size w w' ∧ (B = false → allW xs ≤ 1048576)

set_option maxHeartbeats 4000000 in
set_option maxRecDepth 20000 in
theorem tooBig_any (w : World) (av : Value) (xs : List Ans) (hp : Rd w av xs.length (xs.flatMap inCells)) (he : ∀ a ∈ xs, a.okI w) (hsm : ∀ a ∈ xs, SmallA a) (hn0 : xs.length ≤ 1048576) :
    Calls Try.prog 21 #[av] w fun e w' => BigPost xs w e w' := by
  have HP : Hid (Rd w av xs.length (xs.flatMap inCells)) := hp
  have HE : Hid (∀ a ∈ xs, a.okI w) := he
  have HS : Hid (∀ a ∈ xs, SmallA a) := hsm
  clear he hsm
  obtain ⟨ao, cap, rfl, g1, g2, g3, g4⟩ := hp
  clear g3 g4
  unfold maxLen at g2
  by_cases hn : xs.length ≤ 8192
  case neg =>
    by_cases hn2 : xs.length ≤ 65536
    · have hn' : 8192 < xs.length := by omega
      clear hn
      go_enter Try.func21, Try.ntmps21
      go_wp2
      go_ret
      exact ⟨true, rfl, Below.refl _ _, fun h => by cases h⟩
    · have hn' : 65536 < xs.length := by omega
      clear hn hn2
      go_enter Try.func21, Try.ntmps21
      go_wp2
      go_ret
      exact ⟨true, rfl, Below.refl _ _, fun h => by cases h⟩
  go_enter Try.func21, Try.ntmps21
  go_wp2
  go_loopw [3, 18] (fun z i wr => ∃ (k t : Nat), k ≤ xs.length ∧ i = .int .i64 k ∧ z = .int .i64 t ∧ t ≤ 1048576 ∧ Hid (t + 128 * k = 128 * xs.length + allW (xs.take k)) ∧ Hid (Below w.heap.size w wr)) (fun _ i _ => xs.length - (intOf i).toNat)
  case atStart => exact ⟨0, 128 * xs.length, by omega, rfl, by go_num, by omega, by simp [Hid, allW], Below.refl _ _⟩
  case round =>
    obtain ⟨k, t, hk, rfl, rfl, ht, htot, hbel⟩ := hrel
    by_cases hlt : k < xs.length
    case neg =>
      go_wp2
      go_ret
      refine ⟨false, rfl, hbel.out, fun _ => ?_⟩
      have h := htot.out
      rw [List.take_of_length_le (by omega)] at h
      omega
    obtain ⟨b, off, cap', hv, q1, q2, hcell⟩ := HP.out.elem (f := inCells) (size := 12) (fun _ => rfl) (by omega) (by omega)
    simp only [Value.slice.injEq, true_and] at hv
    obtain ⟨rfl, rfl⟩ := hv
    have hc := fun j u h => hcell k hlt j u h
    have hka := HE.out xs[k] (List.getElem_mem hlt)
    have hks := HS.out xs[k] (List.getElem_mem hlt)
    have hsn : Hid (allW (xs.take (k + 1)) = allW (xs.take k) + ansW xs[k]) := allW_snoc xs k hlt
    clear hcell
    generalize xs[k] = a at hc hka hks hsn
    obtain ⟨ao3, cap3, hv3, -⟩ := hka.val
    obtain ⟨ao6, cap6, hv6, -⟩ := hka.ents
    obtain ⟨ao11, cap11, hv11, -⟩ := hka.keys
    have y3 : w.cell? ⟨b, off + k * 12 + 3, none⟩ = some (.slice ao3 a.val.length cap3) := by rw [← hv3]; exact hc 3 _ rfl
    have y6 : w.cell? ⟨b, off + k * 12 + 6, none⟩ = some (.slice ao6 a.ents.length cap6) := by rw [← hv6]; exact hc 6 _ rfl
    have y11 : w.cell? ⟨b, off + k * 12 + 11, none⟩ = some (.slice ao11 a.keys.length cap11) := by rw [← hv11]; exact hc 11 _ rfl
    have hbw : b < w.heap.size := World.block_lt_of_cell? w _ y3
    clear hc
    have H6 : Hid (a.ev = .slice ao6 a.ents.length cap6) := hv6
    have H11 : Hid (a.kv = .slice ao11 a.keys.length cap11) := hv11
    clear hv3 hv6 hv11
    generalize hb12 : off + k * 12 = o12 at y3 y6 y11
    have Y : Hid (∀ wx, Below w.heap.size w wx → wx.cell? ⟨b, o12 + 3, none⟩ = some (.slice ao3 a.val.length cap3) ∧ wx.cell? ⟨b, o12 + 6, none⟩ = some (.slice ao6 a.ents.length cap6) ∧ wx.cell? ⟨b, o12 + 11, none⟩ = some (.slice ao11 a.keys.length cap11)) :=
      fun wx hx => ⟨(hx.cell (p := ⟨b, o12 + 3, none⟩) hbw).trans y3, (hx.cell (p := ⟨b, o12 + 6, none⟩) hbw).trans y6, (hx.cell (p := ⟨b, o12 + 11, none⟩) hbw).trans y11⟩
    clear y3 y6 y11
    obtain ⟨x3, x6, x11⟩ := Y.out wr hbel.out
    have h1 := hks.val
    by_cases h2 : a.ents.length ≤ 65536
    case neg =>
      have h2' : 65536 < a.ents.length := by omega
      clear h2
      go_wp2
      go_ret
      exact ⟨true, rfl, hbel.out, fun h => by cases h⟩
    by_cases h3 : a.keys.length ≤ 65536
    case neg =>
      have h3' : 65536 < a.keys.length := by omega
      clear h3
      go_wp2
      go_ret
      exact ⟨true, rfl, hbel.out, fun h => by cases h⟩
    go_wp2
    go_quiet (fail)
    have hbel2 := below_drewN hbel.out nq
    generalize wr.drewN nq = w2 at hbel2 ⊢
    obtain ⟨x3, x6, x11⟩ := Y.out w2 hbel2
    have HB2 : Hid (Below w.heap.size w w2) := hbel2
    clear hbel hbel2
    have hT : Hid (t + (a.val.length + a.ents.length * 48 + a.keys.length * 16) + 128 * (k + 1) = 128 * xs.length + allW (xs.take k) + 128 + a.val.length + 48 * a.ents.length + 16 * a.keys.length) := by
      have := htot.out
      unfold Hid
      omega
    by_cases h4 : t + (a.val.length + a.ents.length * 48 + a.keys.length * 16) ≤ 1048576
    case neg =>
      have h4' : 1048576 < t + (a.val.length + a.ents.length * 48 + a.keys.length * 16) := by omega
      clear h4
      go_wp2
      go_ret
      exact ⟨true, rfl, HB2.out, fun h => by cases h⟩
    go_wp2
    go_loopw [3, 74] (fun z i wr => ∃ (j t2 : Nat), j ≤ a.ents.length ∧ i = .int .i64 j ∧ z = .int .i64 t2 ∧ t2 ≤ 1048576 ∧ Hid (t2 + 128 * (k + 1) + 48 * j = 128 * xs.length + allW (xs.take k) + 128 + a.val.length + 48 * a.ents.length + 16 * a.keys.length + entsW (a.ents.take j)) ∧ Hid (Below w.heap.size w wr)) (fun _ i _ => a.ents.length - (intOf i).toNat)
    case atStart => exact ⟨0, t + (a.val.length + a.ents.length * 48 + a.keys.length * 16), by omega, rfl, by go_num, h4, by simpa [Hid, entsW] using hT, HB2⟩
    case round =>
      obtain ⟨j, t2, hj, rfl, rfl, ht2, htot2, hbel3⟩ := hrel
      obtain ⟨wo, hwo⟩ : ∃ wo, wo = wr := ⟨_, rfl⟩
      subst hwo
      clear h4 hT HB2 x3 x6 x11
      obtain ⟨x3, x6, x11⟩ := Y.out wo hbel3.out
      by_cases hjl : j < a.ents.length
      case pos =>
        obtain ⟨b9, off9, cap9, hv9, q91, q92, hcell9⟩ := hka.ents.elem (f := inEnt) (size := 3) (fun _ => rfl) (by omega) (by omega)
        rw [H6.out] at hv9
        simp only [Value.slice.injEq, true_and] at hv9
        obtain ⟨rfl, rfl⟩ := hv9
        have hek := hka.each a.ents[j] (List.getElem_mem hjl)
        have hsz := hks.each a.ents[j] (List.getElem_mem hjl)
        have hse : Hid (entsW (a.ents.take (j + 1)) = entsW (a.ents.take j) + entW a.ents[j]) := entsW_snoc a.ents j hjl
        have hc9 := fun i u h => (hbel3.out.cell (World.block_lt_of_cell? w _ (hcell9 j hjl i u h))).trans (hcell9 j hjl i u h)
        clear hcell9
        generalize a.ents[j] = e at hc9 hek hsz hse
        obtain ⟨ao92, cap92, hv92, -⟩ := hek.1
        have z0 : wo.cell? ⟨b9, off9 + j * 3, none⟩ = some (.string e.key) := hc9 0 _ rfl
        have z2 : wo.cell? ⟨b9, off9 + j * 3 + 2, none⟩ = some (.slice ao92 e.val.length cap92) := by rw [← hv92]; exact hc9 2 _ rfl
        obtain ⟨hs1, hs2⟩ := hsz
        clear hc9 hv92
        generalize hb9 : off9 + j * 3 = o9 at z0 z2
        have i1 : (j : Int) < (a.ents.length : Int) := by omega
        have i0 : (0 : Int) ≤ (j : Int) := by omega
        go_wp2
        go_quiet (fail)
        have hbel4 := below_drewN hbel3.out nq
        generalize wo.drewN nq = w4 at hbel4 ⊢
        have HB4 : Hid (Below w.heap.size w w4) := hbel4
        clear hbel4 z0 z2 x3 x6 x11
        by_cases h5 : t2 + (e.key.size + e.val.length) ≤ 1048576
        case neg =>
          have h5' : 1048576 < t2 + (e.key.size + e.val.length) := by omega
          clear h5
          go_wp2
          go_ret
          exact ⟨true, rfl, HB4.out, fun h => by cases h⟩
        go_wp2
        go_roundw
        case rel =>
          refine ⟨j + 1, t2 + (e.key.size + e.val.length), by omega, by go_num, by go_num, h5, ?_, HB4⟩
          have h := htot2.out
          unfold Hid
          rw [hse.out]
          simp only [entW]
          omega
        case measure => simp [intOf]; omega
      case neg =>
        have htot3 : Hid (t2 + 128 * (k + 1) = 128 * xs.length + allW (xs.take k) + 128 + a.val.length + 16 * a.keys.length + entsW a.ents) := by
          have h := htot2.out
          rw [List.take_of_length_le (l := a.ents) (i := j) (by omega)] at h
          unfold Hid
          omega
        clear htot2
        go_wp2
        go_loopw [3, 106] (fun z i wr => ∃ (q t3 : Nat), q ≤ a.keys.length ∧ i = .int .i64 q ∧ z = .int .i64 t3 ∧ t3 ≤ 1048576 ∧ Hid (t3 + 128 * (k + 1) + 16 * q = 128 * xs.length + allW (xs.take k) + 128 + a.val.length + 16 * a.keys.length + entsW a.ents + keysW (a.keys.take q)) ∧ Hid (Below w.heap.size w wr)) (fun _ i _ => a.keys.length - (intOf i).toNat)
        case atStart => exact ⟨0, t2, by omega, rfl, rfl, ht2, by simpa [Hid, keysW] using htot3, hbel3⟩
        case round =>
          obtain ⟨q, t3, hq, rfl, rfl, ht3, htot4, hbel5⟩ := hrel
          clear ht2 htot3 x3 x6 x11 hbel3
          obtain ⟨x3, x6, x11⟩ := Y.out wr hbel5.out
          by_cases hql : q < a.keys.length
          case pos =>
            obtain ⟨b9, off9, cap9, hv9, q91, q92, hcell9⟩ := hka.keys.elem (f := keyCells) (size := 1) (fun _ => rfl) (by omega) (by omega)
            rw [H11.out] at hv9
            simp only [Value.slice.injEq, true_and] at hv9
            obtain ⟨rfl, rfl⟩ := hv9
            have hsk : Hid (keysW (a.keys.take (q + 1)) = keysW (a.keys.take q) + (16 + a.keys[q].size)) := keysW_snoc a.keys q hql
            have hsz := hks.eachK a.keys[q] (List.getElem_mem hql)
            have z0 : wr.cell? ⟨b9, off9 + q, none⟩ = some (.string a.keys[q]) := by
              have h := hcell9 q hql 0 _ rfl
              rw [Nat.mul_one, Nat.add_zero] at h
              exact (hbel5.out.cell (World.block_lt_of_cell? w _ h)).trans h
            clear hcell9
            generalize a.keys[q] = s at z0 hsk hsz
            by_cases h5 : t3 + s.size ≤ 1048576
            case neg =>
              have h5' : 1048576 < t3 + s.size := by omega
              clear h5
              go_wp2
              go_ret
              exact ⟨true, rfl, hbel5.out, fun h => by cases h⟩
            go_wp2
            go_roundw
            case rel =>
              refine ⟨q + 1, t3 + s.size, by omega, by go_num, by go_num, h5, ?_, hbel5⟩
              have h := htot4.out
              unfold Hid
              rw [hsk.out]
              omega
            case measure => simp [intOf]; omega
          case neg =>
            have htot5 : Hid (t3 + 128 * (k + 1) = 128 * xs.length + allW (xs.take k) + ansW a) := by
              have h := htot4.out
              rw [List.take_of_length_le (l := a.keys) (i := q) (by omega)] at h
              have := keysW_len a.keys
              unfold Hid ansW
              omega
            clear htot4
            go_wp2
            go_roundw
            case rel =>
              refine ⟨k + 1, t3, by omega, by go_num, rfl, ht3, ?_, hbel5⟩
              unfold Hid
              rw [hsn.out]
              have := htot5.out
              omega
            case measure => simp [intOf]; omega
end Go.Proofs.Qxb6616714a
