import Derived.Test.Qxb6616714aFwd
namespace Go.Proofs.Qxb6616714a
open Go.RowKit

structure SmallA (a : Ans) : Prop where
  val : a.val.length ≤ 1048576
  ents : a.ents.length ≤ 1048576
  each : ∀ e ∈ a.ents, e.key.size ≤ 1048576 ∧ e.val.length ≤ 1048576
  keys : a.keys.length ≤ 1048576
  eachK : ∀ s ∈ a.keys, s.size ≤ 1048576
def BytesPost (xs : List Ans) (w : World) (e : Ending) (w' : World) : Prop := ∃ B, e = .returned (.bool B) ∧ w' = w ∧ (B = true → xs.length ≤ 1048576 ∧ ∀ a ∈ xs, SmallA a)

set_option maxHeartbeats 4000000 in
set_option maxRecDepth 20000 in
theorem bytes25 (w : World) (av : Value) (xs : List Ans) (cut : Int) (hp : Rd w av xs.length (xs.flatMap inCells)) (he : ∀ a ∈ xs, a.okI w) :
    Calls Try.prog 25 #[av, .int .i64 cut] w fun e w' => BytesPost xs w e w' := by
  have HP : Hid (Rd w av xs.length (xs.flatMap inCells)) := hp
  have HE : Hid (∀ a ∈ xs, a.okI w) := he
  clear he
  obtain ⟨ao, cap, rfl, g1, g2, g3, g4⟩ := hp
  clear g3 g4
  unfold maxLen at g2
  by_cases hn : xs.length ≤ 1048576
  case neg =>
    have hn' : 1048576 < xs.length := by omega
    clear hn
    go_enter Try.func25, Try.ntmps25
    go_wp2
    go_ret
    exact ⟨false, rfl, rfl, fun h => by cases h⟩
  go_enter Try.func25, Try.ntmps25
  go_wp2
  go_loop [5, 6] (fun z i => ∃ (k t : Nat), k ≤ xs.length ∧ i = .int .i64 k ∧ z = .int .i64 t ∧ t ≤ 1048576 ∧ Hid (∀ a ∈ xs.take k, SmallA a)) (fun _ i => xs.length - (intOf i).toNat)
  case atStart => exact ⟨0, xs.length, by omega, rfl, rfl, hn, fun a ha => by simp at ha⟩
  case round =>
    obtain ⟨k, t, hk, rfl, rfl, ht, hsm⟩ := hrel
    by_cases hlt : k < xs.length
    case neg =>
      go_wp2
      go_ret
      refine ⟨true, rfl, rfl, fun _ => ⟨hn, ?_⟩⟩
      have := hsm.out
      rwa [List.take_of_length_le (by omega)] at this
    obtain ⟨b, off, cap', hv, q1, q2, hcell⟩ := HP.out.elem (f := inCells) (size := 12) (fun _ => rfl) (by omega) (by omega)
    simp only [Value.slice.injEq, true_and] at hv
    obtain ⟨rfl, rfl⟩ := hv
    have hc := fun j u h => hcell k hlt j u h
    have hka := HE.out xs[k] (List.getElem_mem hlt)
    have hst : Hid (∀ a ∈ xs.take (k + 1), a ∈ xs.take k ∨ a = xs[k]) := by
      intro a ha
      rw [List.take_succ_eq_append_getElem hlt] at ha
      rw [List.mem_append, List.mem_singleton] at ha
      exact ha
    clear hcell
    generalize xs[k] = a at hc hka hst
    obtain ⟨ao3, cap3, hv3, -⟩ := hka.val
    obtain ⟨ao6, cap6, hv6, -⟩ := hka.ents
    obtain ⟨ao11, cap11, hv11, -⟩ := hka.keys
    have x3 : w.cell? ⟨b, off + k * 12 + 3, none⟩ = some (.slice ao3 a.val.length cap3) := by rw [← hv3]; exact hc 3 _ rfl
    have x6 : w.cell? ⟨b, off + k * 12 + 6, none⟩ = some (.slice ao6 a.ents.length cap6) := by rw [← hv6]; exact hc 6 _ rfl
    have x11 : w.cell? ⟨b, off + k * 12 + 11, none⟩ = some (.slice ao11 a.keys.length cap11) := by rw [← hv11]; exact hc 11 _ rfl
    clear hc
    have H6 : Hid (a.ev = .slice ao6 a.ents.length cap6) := hv6
    have H11 : Hid (a.kv = .slice ao11 a.keys.length cap11) := hv11
    clear hv3 hv6 hv11
    generalize hb12 : off + k * 12 = o12 at x3 x6 x11
    by_cases h1 : a.val.length ≤ 1048576
    case neg =>
      have h1' : 1048576 < a.val.length := by omega
      clear h1
      go_wp2
      go_ret
      exact ⟨false, rfl, rfl, fun h => by cases h⟩
    by_cases h2 : t + a.val.length ≤ 1048576
    case neg =>
      have h2' : 1048576 < t + a.val.length := by omega
      clear h2
      go_wp2
      go_ret
      exact ⟨false, rfl, rfl, fun h => by cases h⟩
    by_cases h3 : a.ents.length ≤ 1048576
    case neg =>
      have h3' : 1048576 < a.ents.length := by omega
      clear h3
      go_wp2
      go_ret
      exact ⟨false, rfl, rfl, fun h => by cases h⟩
    by_cases h4 : t + a.val.length + a.ents.length ≤ 1048576
    case neg =>
      have h4' : 1048576 < t + a.val.length + a.ents.length := by omega
      clear h4
      go_wp2
      go_ret
      exact ⟨false, rfl, rfl, fun h => by cases h⟩
    go_wp2
    go_loop [5, 7] (fun z i => ∃ (j t2 : Nat), j ≤ a.ents.length ∧ i = .int .i64 j ∧ z = .int .i64 t2 ∧ t2 ≤ 1048576 ∧ Hid (∀ e ∈ a.ents.take j, e.key.size ≤ 1048576 ∧ e.val.length ≤ 1048576)) (fun _ i => a.ents.length - (intOf i).toNat)
    case atStart => exact ⟨0, t + a.val.length + a.ents.length, by omega, rfl, by go_num, h4, fun e he => by simp at he⟩
    case round =>
      obtain ⟨j, t2, hj, rfl, rfl, ht2, hse⟩ := hrel
      clear h2 h4 ht
      by_cases hjl : j < a.ents.length
      case pos =>
        obtain ⟨b9, off9, cap9, hv9, q91, q92, hcell9⟩ := hka.ents.elem (f := inEnt) (size := 3) (fun _ => rfl) (by omega) (by omega)
        rw [H6.out] at hv9
        simp only [Value.slice.injEq, true_and] at hv9
        obtain ⟨rfl, rfl⟩ := hv9
        have hek := hka.each a.ents[j] (List.getElem_mem hjl)
        have hste : Hid (∀ e ∈ a.ents.take (j + 1), e ∈ a.ents.take j ∨ e = a.ents[j]) := by
          intro e he
          rw [List.take_succ_eq_append_getElem hjl] at he
          rw [List.mem_append, List.mem_singleton] at he
          exact he
        have hc9 := fun i u h => hcell9 j hjl i u h
        clear hcell9
        generalize a.ents[j] = e at hc9 hek hste
        obtain ⟨ao92, cap92, hv92, -⟩ := hek.1
        have z0 : w.cell? ⟨b9, off9 + j * 3, none⟩ = some (.string e.key) := hc9 0 _ rfl
        have z2 : w.cell? ⟨b9, off9 + j * 3 + 2, none⟩ = some (.slice ao92 e.val.length cap92) := by rw [← hv92]; exact hc9 2 _ rfl
        clear hc9 hv92
        generalize hb9 : off9 + j * 3 = o9 at z0 z2
        by_cases h5 : e.key.size ≤ 1048576
        case neg =>
          have h5' : 1048576 < e.key.size := by omega
          clear h5
          go_wp2
          go_ret
          exact ⟨false, rfl, rfl, fun h => by cases h⟩
        by_cases h6 : t2 + e.key.size ≤ 1048576
        case neg =>
          have h6' : 1048576 < t2 + e.key.size := by omega
          clear h6
          go_wp2
          go_ret
          exact ⟨false, rfl, rfl, fun h => by cases h⟩
        by_cases h7 : e.val.length ≤ 1048576
        case neg =>
          have h7' : 1048576 < e.val.length := by omega
          clear h7
          go_wp2
          go_ret
          exact ⟨false, rfl, rfl, fun h => by cases h⟩
        by_cases h8 : t2 + e.key.size + e.val.length ≤ 1048576
        case neg =>
          have h8' : 1048576 < t2 + e.key.size + e.val.length := by omega
          clear h8
          go_wp2
          go_ret
          exact ⟨false, rfl, rfl, fun h => by cases h⟩
        go_wp2
        go_round
        case rel =>
          refine ⟨j + 1, t2 + e.key.size + e.val.length, by omega, by go_num, by go_num, h8, fun e' he' => ?_⟩
          rcases hste.out e' he' with h | h
          · exact hse.out e' h
          · subst h
            exact ⟨h5, h7⟩
        case measure => simp [intOf]; omega
      case neg =>
        have hall : Hid (∀ e ∈ a.ents, e.key.size ≤ 1048576 ∧ e.val.length ≤ 1048576) := by
          have := hse.out
          rwa [List.take_of_length_le (by omega)] at this
        clear hse
        by_cases h5 : a.keys.length ≤ 1048576
        case neg =>
          have h5' : 1048576 < a.keys.length := by omega
          clear h5
          go_wp2
          go_ret
          exact ⟨false, rfl, rfl, fun h => by cases h⟩
        by_cases h6 : t2 + a.keys.length ≤ 1048576
        case neg =>
          have h6' : 1048576 < t2 + a.keys.length := by omega
          clear h6
          go_wp2
          go_ret
          exact ⟨false, rfl, rfl, fun h => by cases h⟩
        go_wp2
        go_loop [5, 8] (fun z i => ∃ (q t3 : Nat), q ≤ a.keys.length ∧ i = .int .i64 q ∧ z = .int .i64 t3 ∧ t3 ≤ 1048576 ∧ Hid (∀ s ∈ a.keys.take q, s.size ≤ 1048576)) (fun _ i => a.keys.length - (intOf i).toNat)
        case atStart => exact ⟨0, t2 + a.keys.length, by omega, rfl, by go_num, h6, fun e he => by simp at he⟩
        case round =>
          obtain ⟨q, t3, hq, rfl, rfl, ht3, hsk⟩ := hrel
          clear h6 ht2
          by_cases hql : q < a.keys.length
          case pos =>
            obtain ⟨b9, off9, cap9, hv9, q91, q92, hcell9⟩ := hka.keys.elem (f := keyCells) (size := 1) (fun _ => rfl) (by omega) (by omega)
            rw [H11.out] at hv9
            simp only [Value.slice.injEq, true_and] at hv9
            obtain ⟨rfl, rfl⟩ := hv9
            have hstk : Hid (∀ s ∈ a.keys.take (q + 1), s ∈ a.keys.take q ∨ s = a.keys[q]) := by
              intro e he
              rw [List.take_succ_eq_append_getElem hql] at he
              rw [List.mem_append, List.mem_singleton] at he
              exact he
            have z0 : w.cell? ⟨b9, off9 + q, none⟩ = some (.string a.keys[q]) := by
              have h := hcell9 q hql 0 _ rfl
              rw [Nat.mul_one, Nat.add_zero] at h
              exact h
            clear hcell9
            generalize a.keys[q] = s at z0 hstk
            by_cases h7 : s.size ≤ 1048576
            case neg =>
              have h7' : 1048576 < s.size := by omega
              clear h7
              go_wp2
              go_ret
              exact ⟨false, rfl, rfl, fun h => by cases h⟩
            by_cases h8 : t3 + s.size ≤ 1048576
            case neg =>
              have h8' : 1048576 < t3 + s.size := by omega
              clear h8
              go_wp2
              go_ret
              exact ⟨false, rfl, rfl, fun h => by cases h⟩
            go_wp2
            go_round
            case rel =>
              refine ⟨q + 1, t3 + s.size, by omega, by go_num, by go_num, h8, fun e' he' => ?_⟩
              rcases hstk.out e' he' with h | h
              · exact hsk.out e' h
              · subst h
                exact h7
            case measure => simp [intOf]; omega
          case neg =>
            have hallk : Hid (∀ s ∈ a.keys, s.size ≤ 1048576) := by
              have := hsk.out
              rwa [List.take_of_length_le (by omega)] at this
            clear hsk
            go_wp2
            go_round
            case rel =>
              refine ⟨k + 1, t3, by omega, by go_num, rfl, ht3, fun a' ha' => ?_⟩
              rcases hst.out a' ha' with h | h
              · exact hsm.out a' h
              · subst h
                exact ⟨h1, h3, hall.out, h5, hallk.out⟩
            case measure => simp [intOf]; omega

set_option maxHeartbeats 4000000 in
set_option maxRecDepth 20000 in
theorem bytes20 (w : World) (av : Value) (xs : List Ans) (hp : Rd w av xs.length (xs.flatMap inCells)) (he : ∀ a ∈ xs, a.okI w) :
    Calls Try.prog 20 #[av] w fun e w' => BytesPost xs w e w' := by
  have HP : Hid (Rd w av xs.length (xs.flatMap inCells)) := hp
  have HE : Hid (∀ a ∈ xs, a.okI w) := he
  clear he
  obtain ⟨ao, cap, rfl, g1, g2, g3, g4⟩ := hp
  clear g3 g4
  unfold maxLen at g2
  by_cases hn : xs.length ≤ 1048576
  case neg =>
    have hn' : 1048576 < xs.length := by omega
    clear hn
    go_enter Try.func20, Try.ntmps20
    go_wp2
    go_ret
    exact ⟨false, rfl, rfl, fun h => by cases h⟩
  go_enter Try.func20, Try.ntmps20
  go_wp2
  go_loop [3, 4] (fun z i => ∃ (k t : Nat), k ≤ xs.length ∧ i = .int .i64 k ∧ z = .int .i64 t ∧ t ≤ 1048576 ∧ Hid (∀ a ∈ xs.take k, SmallA a)) (fun _ i => xs.length - (intOf i).toNat)
  case atStart => exact ⟨0, xs.length, by omega, rfl, rfl, hn, fun a ha => by simp at ha⟩
  case round =>
    obtain ⟨k, t, hk, rfl, rfl, ht, hsm⟩ := hrel
    by_cases hlt : k < xs.length
    case neg =>
      go_wp2
      go_ret
      refine ⟨true, rfl, rfl, fun _ => ⟨hn, ?_⟩⟩
      have := hsm.out
      rwa [List.take_of_length_le (by omega)] at this
    obtain ⟨b, off, cap', hv, q1, q2, hcell⟩ := HP.out.elem (f := inCells) (size := 12) (fun _ => rfl) (by omega) (by omega)
    simp only [Value.slice.injEq, true_and] at hv
    obtain ⟨rfl, rfl⟩ := hv
    have hc := fun j u h => hcell k hlt j u h
    have hka := HE.out xs[k] (List.getElem_mem hlt)
    have hst : Hid (∀ a ∈ xs.take (k + 1), a ∈ xs.take k ∨ a = xs[k]) := by
      intro a ha
      rw [List.take_succ_eq_append_getElem hlt] at ha
      rw [List.mem_append, List.mem_singleton] at ha
      exact ha
    clear hcell
    generalize xs[k] = a at hc hka hst
    obtain ⟨ao3, cap3, hv3, -⟩ := hka.val
    obtain ⟨ao6, cap6, hv6, -⟩ := hka.ents
    obtain ⟨ao11, cap11, hv11, -⟩ := hka.keys
    have x3 : w.cell? ⟨b, off + k * 12 + 3, none⟩ = some (.slice ao3 a.val.length cap3) := by rw [← hv3]; exact hc 3 _ rfl
    have x6 : w.cell? ⟨b, off + k * 12 + 6, none⟩ = some (.slice ao6 a.ents.length cap6) := by rw [← hv6]; exact hc 6 _ rfl
    have x11 : w.cell? ⟨b, off + k * 12 + 11, none⟩ = some (.slice ao11 a.keys.length cap11) := by rw [← hv11]; exact hc 11 _ rfl
    clear hc
    have H6 : Hid (a.ev = .slice ao6 a.ents.length cap6) := hv6
    have H11 : Hid (a.kv = .slice ao11 a.keys.length cap11) := hv11
    clear hv3 hv6 hv11
    generalize hb12 : off + k * 12 = o12 at x3 x6 x11
    by_cases h1 : a.val.length ≤ 1048576
    case neg =>
      have h1' : 1048576 < a.val.length := by omega
      clear h1
      go_wp2
      go_ret
      exact ⟨false, rfl, rfl, fun h => by cases h⟩
    by_cases h2 : t + a.val.length ≤ 1048576
    case neg =>
      have h2' : 1048576 < t + a.val.length := by omega
      clear h2
      go_wp2
      go_ret
      exact ⟨false, rfl, rfl, fun h => by cases h⟩
    by_cases h3 : a.ents.length ≤ 1048576
    case neg =>
      have h3' : 1048576 < a.ents.length := by omega
      clear h3
      go_wp2
      go_ret
      exact ⟨false, rfl, rfl, fun h => by cases h⟩
    by_cases h4 : t + a.val.length + a.ents.length ≤ 1048576
    case neg =>
      have h4' : 1048576 < t + a.val.length + a.ents.length := by omega
      clear h4
      go_wp2
      go_ret
      exact ⟨false, rfl, rfl, fun h => by cases h⟩
    go_wp2
    go_loop [3, 5] (fun z i => ∃ (j t2 : Nat), j ≤ a.ents.length ∧ i = .int .i64 j ∧ z = .int .i64 t2 ∧ t2 ≤ 1048576 ∧ Hid (∀ e ∈ a.ents.take j, e.key.size ≤ 1048576 ∧ e.val.length ≤ 1048576)) (fun _ i => a.ents.length - (intOf i).toNat)
    case atStart => exact ⟨0, t + a.val.length + a.ents.length, by omega, rfl, by go_num, h4, fun e he => by simp at he⟩
    case round =>
      obtain ⟨j, t2, hj, rfl, rfl, ht2, hse⟩ := hrel
      clear h2 h4 ht
      by_cases hjl : j < a.ents.length
      case pos =>
        obtain ⟨b9, off9, cap9, hv9, q91, q92, hcell9⟩ := hka.ents.elem (f := inEnt) (size := 3) (fun _ => rfl) (by omega) (by omega)
        rw [H6.out] at hv9
        simp only [Value.slice.injEq, true_and] at hv9
        obtain ⟨rfl, rfl⟩ := hv9
        have hek := hka.each a.ents[j] (List.getElem_mem hjl)
        have hste : Hid (∀ e ∈ a.ents.take (j + 1), e ∈ a.ents.take j ∨ e = a.ents[j]) := by
          intro e he
          rw [List.take_succ_eq_append_getElem hjl] at he
          rw [List.mem_append, List.mem_singleton] at he
          exact he
        have hc9 := fun i u h => hcell9 j hjl i u h
        clear hcell9
        generalize a.ents[j] = e at hc9 hek hste
        obtain ⟨ao92, cap92, hv92, -⟩ := hek.1
        have z0 : w.cell? ⟨b9, off9 + j * 3, none⟩ = some (.string e.key) := hc9 0 _ rfl
        have z2 : w.cell? ⟨b9, off9 + j * 3 + 2, none⟩ = some (.slice ao92 e.val.length cap92) := by rw [← hv92]; exact hc9 2 _ rfl
        clear hc9 hv92
        generalize hb9 : off9 + j * 3 = o9 at z0 z2
        by_cases h5 : e.key.size ≤ 1048576
        case neg =>
          have h5' : 1048576 < e.key.size := by omega
          clear h5
          go_wp2
          go_ret
          exact ⟨false, rfl, rfl, fun h => by cases h⟩
        by_cases h6 : t2 + e.key.size ≤ 1048576
        case neg =>
          have h6' : 1048576 < t2 + e.key.size := by omega
          clear h6
          go_wp2
          go_ret
          exact ⟨false, rfl, rfl, fun h => by cases h⟩
        by_cases h7 : e.val.length ≤ 1048576
        case neg =>
          have h7' : 1048576 < e.val.length := by omega
          clear h7
          go_wp2
          go_ret
          exact ⟨false, rfl, rfl, fun h => by cases h⟩
        by_cases h8 : t2 + e.key.size + e.val.length ≤ 1048576
        case neg =>
          have h8' : 1048576 < t2 + e.key.size + e.val.length := by omega
          clear h8
          go_wp2
          go_ret
          exact ⟨false, rfl, rfl, fun h => by cases h⟩
        go_wp2
        go_round
        case rel =>
          refine ⟨j + 1, t2 + e.key.size + e.val.length, by omega, by go_num, by go_num, h8, fun e' he' => ?_⟩
          rcases hste.out e' he' with h | h
          · exact hse.out e' h
          · subst h
            exact ⟨h5, h7⟩
        case measure => simp [intOf]; omega
      case neg =>
        have hall : Hid (∀ e ∈ a.ents, e.key.size ≤ 1048576 ∧ e.val.length ≤ 1048576) := by
          have := hse.out
          rwa [List.take_of_length_le (by omega)] at this
        clear hse
        by_cases h5 : a.keys.length ≤ 1048576
        case neg =>
          have h5' : 1048576 < a.keys.length := by omega
          clear h5
          go_wp2
          go_ret
          exact ⟨false, rfl, rfl, fun h => by cases h⟩
        by_cases h6 : t2 + a.keys.length ≤ 1048576
        case neg =>
          have h6' : 1048576 < t2 + a.keys.length := by omega
          clear h6
          go_wp2
          go_ret
          exact ⟨false, rfl, rfl, fun h => by cases h⟩
        go_wp2
        go_loop [3, 6] (fun z i => ∃ (q t3 : Nat), q ≤ a.keys.length ∧ i = .int .i64 q ∧ z = .int .i64 t3 ∧ t3 ≤ 1048576 ∧ Hid (∀ s ∈ a.keys.take q, s.size ≤ 1048576)) (fun _ i => a.keys.length - (intOf i).toNat)
        case atStart => exact ⟨0, t2 + a.keys.length, by omega, rfl, by go_num, h6, fun e he => by simp at he⟩
        case round =>
          obtain ⟨q, t3, hq, rfl, rfl, ht3, hsk⟩ := hrel
          clear h6 ht2
          by_cases hql : q < a.keys.length
          case pos =>
            obtain ⟨b9, off9, cap9, hv9, q91, q92, hcell9⟩ := hka.keys.elem (f := keyCells) (size := 1) (fun _ => rfl) (by omega) (by omega)
            rw [H11.out] at hv9
            simp only [Value.slice.injEq, true_and] at hv9
            obtain ⟨rfl, rfl⟩ := hv9
            have hstk : Hid (∀ s ∈ a.keys.take (q + 1), s ∈ a.keys.take q ∨ s = a.keys[q]) := by
              intro e he
              rw [List.take_succ_eq_append_getElem hql] at he
              rw [List.mem_append, List.mem_singleton] at he
              exact he
            have z0 : w.cell? ⟨b9, off9 + q, none⟩ = some (.string a.keys[q]) := by
              have h := hcell9 q hql 0 _ rfl
              rw [Nat.mul_one, Nat.add_zero] at h
              exact h
            clear hcell9
            generalize a.keys[q] = s at z0 hstk
            by_cases h7 : s.size ≤ 1048576
            case neg =>
              have h7' : 1048576 < s.size := by omega
              clear h7
              go_wp2
              go_ret
              exact ⟨false, rfl, rfl, fun h => by cases h⟩
            by_cases h8 : t3 + s.size ≤ 1048576
            case neg =>
              have h8' : 1048576 < t3 + s.size := by omega
              clear h8
              go_wp2
              go_ret
              exact ⟨false, rfl, rfl, fun h => by cases h⟩
            go_wp2
            go_round
            case rel =>
              refine ⟨q + 1, t3 + s.size, by omega, by go_num, by go_num, h8, fun e' he' => ?_⟩
              rcases hstk.out e' he' with h | h
              · exact hsk.out e' h
              · subst h
                exact h7
            case measure => simp [intOf]; omega
          case neg =>
            have hallk : Hid (∀ s ∈ a.keys, s.size ≤ 1048576) := by
              have := hsk.out
              rwa [List.take_of_length_le (by omega)] at this
            clear hsk
            go_wp2
            go_round
            case rel =>
              refine ⟨k + 1, t3, by omega, by go_num, rfl, ht3, fun a' ha' => ?_⟩
              rcases hst.out a' ha' with h | h
              · exact hsm.out a' h
              · subst h
                exact ⟨h1, h3, hall.out, h5, hallk.out⟩
            case measure => simp [intOf]; omega

end Go.Proofs.Qxb6616714a
