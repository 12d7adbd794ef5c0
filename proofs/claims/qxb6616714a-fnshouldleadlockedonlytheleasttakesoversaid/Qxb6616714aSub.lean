import Derived.Test.Qxb6616714aTime
import Derived.Deep.DeepCutAuto
import Derived.Deep.DrawnRows
import Derived.Deep.RegionHeld3
import Derived.Deep.QuietTactic
import Derived.BigQuiet
namespace Go.Proofs.Qxb6616714a
open Go.RowKit

def sat64 (x : Int) : Int := if x < -9223372036854775808 then -9223372036854775808 else if 9223372036854775807 < x then 9223372036854775807 else x

set_option maxHeartbeats 1000000 in
set_option maxRecDepth 20000 in
theorem tsub_any (w : World) (s s' : Int) (n n' : Nat) (h : n < 1000000000) (h' : n' < 1000000000) (h1 : -20000000000 ≤ s) (h2 : s ≤ 20000000000) (h3 : -20000000000 ≤ s') (h4 : s' ≤ 20000000000) :
    Calls Try.prog 52 #[tm s n, tm s' n'] w fun e w' => e = .returned (.int .i64 (sat64 ((s * 1000000000 + n) - (s' * 1000000000 + n')))) ∧ Below w.heap.size w w' := by
  unfold tm
  have ha := and2 n n' (by omega) (by omega)
  have t1 := top63 n (by omega)
  have t2 := top63 n' (by omega)
  have m1 := mask30 n (by omega)
  have m2 := mask30 n' (by omega)
  have e1 := wrap32_id ((n : Int) - n') (by omega) (by omega)
  go_enter Try.func52, Try.ntmps52
  go_wp2
  have hdw : Hid (wrap64 (wrap64 ((s - s') * 1000000000) + (↑n - ↑n')) = wrap64 ((s * 1000000000 + n) - (s' * 1000000000 + n'))) := by unfold Hid wrap64; omega
  generalize wrap64 (wrap64 ((s - s') * 1000000000) + ((n : Int) - n')) = dw at hdw
  have hd1 : -9223372036854775808 ≤ dw := by rw [hdw.out]; unfold wrap64; omega
  have hd2 : dw ≤ 9223372036854775807 := by rw [hdw.out]; unfold wrap64; omega
  obtain ⟨wr, hwr⟩ : ∃ wr, wr = (w.alloc (Obj.cells #[Value.int IntKind.u64 n, Value.int IntKind.i64 s, Value.pointer none] 69)).alloc (Obj.cells #[Value.int IntKind.u64 n', Value.int IntKind.i64 s', Value.pointer none] 69) := ⟨_, rfl⟩
  have hBw : Below w.heap.size w wr := by rw [hwr]; exact below2 _ _ _
  have hsz : w.heap.size + 2 ≤ wr.heap.size := by rw [hwr]; simp
  have x0 : wr.cell? ⟨w.heap.size, 0, none⟩ = some (.int .u64 n) := by rw [hwr]; go_simp
  have x1 : wr.cell? ⟨w.heap.size, 1, none⟩ = some (.int .i64 s) := by rw [hwr]; go_simp
  have x2 : wr.cell? ⟨w.heap.size, 2, none⟩ = some (.pointer none) := by rw [hwr]; go_simp
  have y0 : wr.cell? ⟨w.heap.size + 1, 0, none⟩ = some (.int .u64 n') := by rw [hwr]; go_simp
  have y1 : wr.cell? ⟨w.heap.size + 1, 1, none⟩ = some (.int .i64 s') := by rw [hwr]; go_simp
  have y2 : wr.cell? ⟨w.heap.size + 1, 2, none⟩ = some (.pointer none) := by rw [hwr]; go_simp
  rw [← hwr]
  clear hwr
  go_region_held3 (fun w' => w'.cell? ⟨w.heap.size, 0, none⟩ = some (.int .u64 n) ∧ w'.cell? ⟨w.heap.size, 1, none⟩ = some (.int .i64 s) ∧ w'.cell? ⟨w.heap.size, 2, none⟩ = some (.pointer none) ∧ w'.cell? ⟨w.heap.size + 1, 0, none⟩ = some (.int .u64 n') ∧ w'.cell? ⟨w.heap.size + 1, 1, none⟩ = some (.int .i64 s') ∧ w'.cell? ⟨w.heap.size + 1, 2, none⟩ = some (.pointer none)) (go_keep)
    (first | (go_at_call 32; refine (tadd_any _ s' n' dw h' h3 h4 hd1 hd2).mono ?_; rintro e w2 ⟨s2, n2, rfl, hn2, ht2, hb2⟩; have hB2 : Below wr.heap.size wr w2 := Below.trans ((Below.refl _ _).drew) (hb2.mono (by simp)); have HT : Hid (s2 * 1000000000 + ↑n2 = s' * 1000000000 + ↑n' + dw) := ht2; clear ht2; have u0 := (hB2.cell (p := ⟨w.heap.size, 0, none⟩) (by show w.heap.size < _; omega)).trans x0; have v0 := (hB2.cell (p := ⟨w.heap.size + 1, 0, none⟩) (by show w.heap.size + 1 < _; omega)).trans y0; have u1 := (hB2.cell (p := ⟨w.heap.size, 1, none⟩) (by show w.heap.size < _; omega)).trans x1; have v1 := (hB2.cell (p := ⟨w.heap.size + 1, 1, none⟩) (by show w.heap.size + 1 < _; omega)).trans y1; have u2 := (hB2.cell (p := ⟨w.heap.size, 2, none⟩) (by show w.heap.size < _; omega)).trans x2; have v2 := (hB2.cell (p := ⟨w.heap.size + 1, 2, none⟩) (by show w.heap.size + 1 < _; omega)).trans y2; replace hB2 : Hid (Below wr.heap.size wr w2) := hB2; clear hb2) | (go_at_call 60; refine (tequal_any _ s2 s n2 n hn2 h).mono ?_; rintro e w3 ⟨rfl, hb3⟩; have hB3 : Below wr.heap.size wr w3 := hB2.out.trans (hb3.mono hB2.out.size); have p0 := (hB3.cell (p := ⟨w.heap.size, 0, none⟩) (by show w.heap.size < _; omega)).trans x0; have q0 := (hB3.cell (p := ⟨w.heap.size + 1, 0, none⟩) (by show w.heap.size + 1 < _; omega)).trans y0; have p1 := (hB3.cell (p := ⟨w.heap.size, 1, none⟩) (by show w.heap.size < _; omega)).trans x1; have q1 := (hB3.cell (p := ⟨w.heap.size + 1, 1, none⟩) (by show w.heap.size + 1 < _; omega)).trans y1; have p2 := (hB3.cell (p := ⟨w.heap.size, 2, none⟩) (by show w.heap.size < _; omega)).trans x2; have q2 := (hB3.cell (p := ⟨w.heap.size + 1, 2, none⟩) (by show w.heap.size + 1 < _; omega)).trans y2))
  have hW3 : Below w.heap.size w w3 := hBw.trans (hB3.mono (by omega))
  have K3 : Hid (Below w.heap.size w w3) := hW3
  have hE := HT.out
  have hD := hdw.out
  unfold wrap64 at hD
  clear x0 x1 x2 y0 y1 y2 u0 u1 u2 v0 v1 v2 hb3 hB3 hW3 hBw
  by_cases c1 : s * 1000000000 + ↑n - (s' * 1000000000 + ↑n') < -9223372036854775808
  · rw [decide_eq_false (by omega)]
    have hr : Hid (sat64 (s * 1000000000 + ↑n - (s' * 1000000000 + ↑n')) = -9223372036854775808) := if_pos c1
    have hlt : decide (s * 1000000000 + (n : Int) < s' * 1000000000 + n') = true := decide_eq_true (by omega)
    clear HT hE hD hdw c1
    go_wp2_with (go_at_call 61; refine (tbefore_any _ s s' n n' h h').mono ?_; rintro e w4 ⟨rfl, hb4⟩; rw [hlt]; have K4 : Hid (Below w.heap.size w w4) := K3.out.trans (hb4.mono K3.out.size); clear hb4)
    go_ret
    exact ⟨by rw [hr.out]; rfl, K4.out⟩
  · by_cases c2 : 9223372036854775807 < s * 1000000000 + ↑n - (s' * 1000000000 + ↑n')
    · rw [decide_eq_false (by omega)]
      have hr : Hid (sat64 (s * 1000000000 + ↑n - (s' * 1000000000 + ↑n')) = 9223372036854775807) := by unfold Hid sat64; rw [if_neg c1, if_pos c2]
      have hlt : decide (s * 1000000000 + (n : Int) < s' * 1000000000 + n') = false := decide_eq_false (by omega)
      clear HT hE hD hdw c1 c2
      go_wp2_with (go_at_call 61; refine (tbefore_any _ s s' n n' h h').mono ?_; rintro e w4 ⟨rfl, hb4⟩; rw [hlt]; have K4 : Hid (Below w.heap.size w w4) := K3.out.trans (hb4.mono K3.out.size); clear hb4)
      go_ret
      exact ⟨by rw [hr.out]; rfl, K4.out⟩
    · have hr : Hid (sat64 (s * 1000000000 + ↑n - (s' * 1000000000 + ↑n')) = dw) := by unfold Hid sat64; rw [if_neg c1, if_neg c2]; omega
      rw [decide_eq_true (by omega)]
      clear HT hE hD hdw c1 c2
      go_wp2_with fail
      go_ret
      exact ⟨by rw [hr.out]; rfl, K3.out⟩
end Go.Proofs.Qxb6616714a
