import Derived.Test.Qxb6616714aRep
import Derived.Maps.OwnOps
namespace Go.Proofs.Qxb6616714a
open Go.RowKit Go.Maps

structure Rep where
  v : Value
  l : List Nat
def repc (r : Rep) : List Value := [r.v]
structure Reps (w : World) (v : Value) (rs : List Rep) : Prop where
  row : Rd w v rs.length (rs.flatMap repc)
  each : ∀ r ∈ rs, Nums w r.v r.l
theorem Reps.later {w w' : World} {v : Value} {rs : List Rep} (h : Reps w v rs) (hb : Below w.heap.size w w') : Reps w' v rs := ⟨h.row.later hb, fun r hr => (h.each r hr).later hb⟩
theorem Reps.elem {w : World} {v : Value} {rs : List Rep} (h : Reps w v rs) (h0 : 0 < rs.length) :
    ∃ b off cap, v = .slice (some ⟨b, off, none⟩) rs.length cap ∧ rs.length ≤ cap ∧ cap ≤ maxLen ∧ ∀ k (hk : k < rs.length), w.cell? ⟨b, off + k, none⟩ = some rs[k].v := by
  obtain ⟨b, off, cap, h1, h2, h3, h4⟩ := Rd.elem (f := repc) (size := 1) (fun _ => rfl) (by omega) h.row h0
  refine ⟨b, off, cap, h1, h2, h3, fun k hk => ?_⟩
  have := h4 k hk 0 _ rfl
  simpa using this

def BoolPost (w : World) (e : Ending) (w' : World) : Prop := ∃ B, e = .returned (.bool B) ∧ w' = w

set_option maxHeartbeats 4000000 in
set_option maxRecDepth 20000 in
theorem zzBytes_any (w : World) (mv rv : Value) (ms : List Nat) (rs : List Rep) (a b c d e' f g : Value) (hm : Nums w mv ms) (hr : Reps w rv rs) :
    Calls Try.prog 9 #[mv, rv, a, b, c, d, e', f, g] w fun e w' => BoolPost w e w' := by
  have HR : Hid (Reps w rv rs) := hr
  obtain ⟨hr1, hr2⟩ := hr
  obtain ⟨ao, cap, rfl, g1, g2, g3, g4⟩ := hm
  obtain ⟨ao', cap', rfl, k1, k2, k3, k4⟩ := hr1
  clear g3 g4 k3 k4 hr2
  unfold maxLen at g2 k2
  by_cases c1 : ms.length ≤ 1048576
  case neg =>
    have c1' : 1048576 < ms.length := by omega
    clear c1
    go_enter Try.func9, Try.ntmps9
    go_wp2
    go_ret
    exact ⟨_, rfl, rfl⟩
  by_cases c2 : rs.length ≤ 1048576
  case neg =>
    have c2' : 1048576 < rs.length := by omega
    clear c2
    go_enter Try.func9, Try.ntmps9
    go_wp2
    go_ret
    exact ⟨_, rfl, rfl⟩
  by_cases c3 : ms.length + rs.length ≤ 1048576
  case neg =>
    have c3' : 1048576 < ms.length + rs.length := by omega
    clear c3
    go_enter Try.func9, Try.ntmps9
    go_wp2
    go_ret
    exact ⟨_, rfl, rfl⟩
  go_enter Try.func9, Try.ntmps9
  go_wp2
  go_loopw [19, 20] (fun z i wr => ∃ k t : Nat, k ≤ rs.length ∧ i = .int .i64 k ∧ z = .int .i64 t ∧ t ≤ 1048576 ∧ wr = w) (fun _ i _ => rs.length - (intOf i).toNat)
  case atStart => exact ⟨0, ms.length + rs.length, by omega, by go_num, by go_num, by omega, rfl⟩
  case round =>
    obtain ⟨k, t, hk, rfl, rfl, ht, rfl⟩ := hrel
    by_cases hlt : k < rs.length
    case neg =>
      go_wp2
      go_ret
      exact ⟨_, rfl, rfl⟩
    obtain ⟨b, off, cap'', hv, q1, q2, hcell⟩ := HR.out.elem (by omega)
    simp only [Value.slice.injEq, true_and] at hv
    obtain ⟨rfl, rfl⟩ := hv
    have hc := hcell k hlt
    clear hcell
    obtain ⟨ao2, cap2, hv2, r1, r2, r3, r4⟩ := HR.out.each _ (List.getElem_mem hlt)
    rw [hv2] at hc
    clear r3 r4 hv2
    unfold maxLen at r2
    generalize rs[k].l.length = n at hc r1
    by_cases d1 : n ≤ 1048576
    case neg =>
      have d1' : 1048576 < n := by omega
      clear d1
      go_wp2
      go_ret
      exact ⟨_, rfl, rfl⟩
    by_cases d2 : t + n ≤ 1048576
    case neg =>
      have d2' : 1048576 < t + n := by omega
      clear d2
      go_wp2
      go_ret
      exact ⟨_, rfl, rfl⟩
    go_wp2
    go_roundw
    case rel => exact ⟨k + 1, t + n, by omega, by go_num, by go_num, by omega, trivial⟩
    case measure => simp [intOf]; omega

set_option maxHeartbeats 4000000 in
set_option maxRecDepth 20000 in
theorem zzBig_any (w : World) (mv rv : Value) (ms : List Nat) (rs : List Rep) (hm : Nums w mv ms) (hr : Reps w rv rs) :
    Calls Try.prog 10 #[mv, rv] w fun e w' => BoolPost w e w' := by
  have HR : Hid (Reps w rv rs) := hr
  obtain ⟨hr1, hr2⟩ := hr
  obtain ⟨ao, cap, rfl, g1, g2, g3, g4⟩ := hm
  obtain ⟨ao', cap', rfl, k1, k2, k3, k4⟩ := hr1
  clear g3 g4 k3 k4 hr2
  unfold maxLen at g2 k2
  by_cases c1 : ms.length ≤ 65536
  case neg =>
    have c1' : 65536 < ms.length := by omega
    clear c1
    go_enter Try.func10, Try.ntmps10
    go_wp2
    go_ret
    exact ⟨_, rfl, rfl⟩
  by_cases c2 : rs.length ≤ 65536
  case neg =>
    have c2' : 65536 < rs.length := by omega
    clear c2
    go_enter Try.func10, Try.ntmps10
    go_wp2
    go_ret
    exact ⟨_, rfl, rfl⟩
  by_cases c3 : ms.length * 4 + rs.length * 24 ≤ 1048576
  case neg =>
    have c3' : 1048576 < ms.length * 4 + rs.length * 24 := by omega
    clear c3
    go_enter Try.func10, Try.ntmps10
    go_wp2
    go_ret
    exact ⟨_, rfl, rfl⟩
  go_enter Try.func10, Try.ntmps10
  go_wp2
  go_loopw [5, 26] (fun z i wr => ∃ k t : Nat, k ≤ rs.length ∧ i = .int .i64 k ∧ z = .int .i64 t ∧ t ≤ 1048576 ∧ wr = w) (fun _ i _ => rs.length - (intOf i).toNat)
  case atStart => exact ⟨0, ms.length * 4 + rs.length * 24, by omega, by go_num, by go_num, by omega, rfl⟩
  case round =>
    obtain ⟨k, t, hk, rfl, rfl, ht, rfl⟩ := hrel
    by_cases hlt : k < rs.length
    case neg =>
      go_wp2
      go_ret
      exact ⟨_, rfl, rfl⟩
    obtain ⟨b, off, cap'', hv, q1, q2, hcell⟩ := HR.out.elem (by omega)
    simp only [Value.slice.injEq, true_and] at hv
    obtain ⟨rfl, rfl⟩ := hv
    have hc := hcell k hlt
    clear hcell
    obtain ⟨ao2, cap2, hv2, r1, r2, r3, r4⟩ := HR.out.each _ (List.getElem_mem hlt)
    rw [hv2] at hc
    clear r3 r4 hv2
    unfold maxLen at r2
    generalize rs[k].l.length = n at hc r1
    by_cases d1 : n ≤ 262144
    case neg =>
      have d1' : 262144 < n := by omega
      clear d1
      go_wp2
      go_ret
      exact ⟨_, rfl, rfl⟩
    by_cases d2 : t + n * 4 ≤ 1048576
    case neg =>
      have d2' : 1048576 < t + n * 4 := by omega
      clear d2
      go_wp2
      go_ret
      exact ⟨_, rfl, rfl⟩
    go_wp2
    go_roundw
    case rel => exact ⟨k + 1, t + n * 4, by omega, by go_num, by go_num, by omega, trivial⟩
    case measure => simp [intOf]; omega
end Go.Proofs.Qxb6616714a
