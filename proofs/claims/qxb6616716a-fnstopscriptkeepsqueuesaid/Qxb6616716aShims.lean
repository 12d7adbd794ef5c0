import Derived.Test.Qxb6616716aRemove
import Derived.BigQuiet
namespace Go.Proofs.Qxb6616716a
open Go.RowKit
section
variable {w : World} {lo hi bq : Nat} {tb : Nat → Nat} {n : Nat → Prop} {v : Value} {es : List Ent} {F : Nat → Bool} {ix : Nat → Int}

theorem below_drewN {B : Nat} {a w : World} (h : Below B a w) (n : Nat) : Below B a (w.drewN n) := h.trans ⟨rfl, rfl, rfl, Nat.le_refl _, fun _ _ => rfl⟩
def qcells : Array Value := #[.int .i64 0, .int .u64 0, .slice none 0 0, .slice none 0 0, .slice none 0 0]
def tcells (bq : Nat) : Array Value := #[.pointer (some ⟨bq, 0, none⟩), .func (.func 30) #[] #[], .int .i64 0]

set_option maxHeartbeats 1000000 in
set_option maxRecDepth 20000 in
theorem newQueue_any (w : World) : Calls Try.prog 8 #[] w fun r w' => r = .returned (.pointer (some ⟨w.heap.size, 0, none⟩)) ∧ w' = w.alloc (.cells qcells 51) := by
  unfold qcells
  go_enter Try.func8, Try.ntmps8
  go_wp2
  go_ret
  exact ⟨rfl, rfl⟩

set_option maxHeartbeats 1000000 in
set_option maxRecDepth 20000 in
theorem newTimer_any (w : World) (bq : Nat) : Calls Try.prog 26 #[.pointer (some ⟨bq, 0, none⟩)] w fun r w' => r = .returned (.pointer (some ⟨w.heap.size, 0, none⟩)) ∧ w' = w.alloc (.cells (tcells bq) 53) := by
  unfold tcells
  go_enter Try.func26, Try.ntmps26
  go_wp2
  go_ret
  exact ⟨rfl, rfl⟩

theorem QS.slice (h : QS w lo hi bq tb n v es F ix) : ∃ o cap, v = .slice o es.length cap ∧ es.length ≤ cap ∧ cap ≤ maxLen := by
  rcases h.row.2 with ⟨h1, h2⟩ | ⟨g, cap, cur, h2, _, _, h3, h4, _⟩
  · exact ⟨none, 0, by rw [h1, h2], by omega, by unfold maxLen; omega⟩
  · exact ⟨_, cap, h2, h3, h4⟩

set_option maxHeartbeats 1000000 in
set_option maxRecDepth 20000 in
theorem len_any (h : QS w lo hi bq tb n v es F ix) : Calls Try.prog 18 #[.pointer (some ⟨bq, 0, none⟩)] w fun r w' => r = .returned (.int .i64 es.length) ∧ w' = w := by
  obtain ⟨o, cap, rfl, hc, hm⟩ := h.slice
  unfold maxLen at hm
  have q2 : w.cell? ⟨bq, 2, none⟩ = some (.slice o es.length cap) := cell_of h.queue 2 _ rfl
  clear h
  go_enter Try.func18, Try.ntmps18
  go_wp2
  go_ret
  exact ⟨rfl, rfl⟩

set_option maxHeartbeats 1000000 in
set_option maxRecDepth 20000 in
theorem index_any (h : QS w lo hi bq tb n v es F ix) (s : Nat) (hs : n s) : Calls Try.prog 12 #[.pointer (some ⟨tb s, 0, none⟩)] w fun r w' => r = .returned (.int .i64 (ix s)) ∧ w' = w := by
  have q2 : w.cell? ⟨tb s, 2, none⟩ = some (.int .i64 (ix s)) := cell_of (h.tim s hs) 2 _ rfl
  clear h
  go_enter Try.func12, Try.ntmps12
  go_wp2
  go_ret
  exact ⟨rfl, rfl⟩

set_option maxHeartbeats 1000000 in
set_option maxRecDepth 20000 in
theorem hasF_any (h : QS w lo hi bq tb n v es F ix) (s : Nat) (hs : n s) : Calls Try.prog 17 #[.pointer (some ⟨tb s, 0, none⟩)] w fun r w' => r = .returned (.bool (F s)) ∧ w' = w := by
  have q2 : w.cell? ⟨tb s, 1, none⟩ = some (fv (F s)) := cell_of (h.tim s hs) 1 _ rfl
  clear h
  unfold fv at q2
  cases hF : F s
  · rw [hF, if_neg (by simp)] at q2
    have hb : Sem.run Try.prog (binOp BinOp.neq 1 Value.nilFunc Value.nilFunc) w = Result.ok (.bool false) w := by kernel_rfl
    go_enter Try.func17, Try.ntmps17
    go_wp2
    go_ret
    exact ⟨rfl, rfl⟩
  · rw [hF, if_pos rfl] at q2
    have hb : Sem.run Try.prog (binOp BinOp.neq 1 (.func (.func 30) #[] #[]) Value.nilFunc) w = Result.ok (.bool true) w := by kernel_rfl
    go_enter Try.func17, Try.ntmps17
    go_wp2
    go_ret
    exact ⟨rfl, rfl⟩

set_option maxHeartbeats 1000000 in
set_option maxRecDepth 20000 in
theorem zzBefore_any (w : World) (a b : Ent) :
    Calls Try.prog 20 #[.int .i64 a.at_, .int .u64 a.seq, .int .i64 b.at_, .int .u64 b.seq] w fun e w' => e = .returned (.bool (a.lt b)) ∧ w' = w := by
  by_cases h : a.at_ = b.at_
  · have hr : Hid (a.lt b = decide (a.seq < b.seq)) := by unfold Hid Ent.lt; rw [if_pos h]
    go_enter Try.func20, Try.ntmps20
    go_wp2
    go_ret
    exact ⟨by rw [hr.out]; rfl, rfl⟩
  · have hr : Hid (a.lt b = decide (a.at_ < b.at_)) := by unfold Hid Ent.lt; rw [if_neg h]
    go_enter Try.func20, Try.ntmps20
    go_wp2
    go_ret
    exact ⟨by rw [hr.out]; rfl, rfl⟩

def ent3 (tb : Nat → Nat) (e : Ent) : Value := .tuple #[.int .i64 e.at_, .int .u64 e.seq, .pointer (some ⟨tb e.seq, 0, none⟩)]

set_option maxHeartbeats 1000000 in
set_option maxRecDepth 20000 in
theorem entry_any (h : QS w lo hi bq tb n v es F ix) (j : Nat) (hj : j < es.length) : Calls Try.prog 22 #[.pointer (some ⟨bq, 0, none⟩), .int .i64 j] w fun r w' => r = .returned (ent3 tb (E es j)) ∧ Below w.heap.size w w' := by
  obtain ⟨o, cap, rfl, hc, hm⟩ := h.slice
  unfold maxLen at hm
  have q2 : w.cell? ⟨bq, 2, none⟩ = some (.slice o es.length cap) := cell_of h.queue 2 _ rfl
  obtain ⟨g, rfl⟩ : ∃ g, o = some ⟨g, 0, none⟩ := by
    rcases h.row.2 with ⟨_, h2⟩ | ⟨g, cap, cur, h2, _⟩
    · omega
    · simp at h2; exact ⟨g, h2.1⟩
  obtain ⟨h', x0, x1, x2⟩ := h.entry rfl (j := j) hj
  clear h' h
  unfold ent3
  obtain ⟨w1, hw1⟩ : ∃ w1, w1 = w.alloc (.cells #[.int .i64 (E es j).at_, .int .u64 (E es j).seq, .pointer (some ⟨tb (E es j).seq, 0, none⟩)] 55) := ⟨_, rfl⟩
  have hb1 : Below w.heap.size w w1 := by rw [hw1]; exact (Below.refl _ _).alloc (Nat.le_refl _) _
  have hc1 : w1.heap[w.heap.size]? = some (.cells #[.int .i64 (E es j).at_, .int .u64 (E es j).seq, .pointer (some ⟨tb (E es j).seq, 0, none⟩)] 55 (0, 0)) := by rw [hw1]; exact heap_alloc_new w _
  have b0 := cell_of hc1 0 _ rfl
  have b1 := cell_of hc1 1 _ rfl
  have b2 := cell_of hc1 2 _ rfl
  clear hc1
  replace hb1 : Hid (Below w.heap.size w w1) := hb1
  go_enter Try.func22, Try.ntmps22
  go_upto_region 2 with fail
  rw [← hw1]
  clear hw1 x0 x1 x2
  go_quiet (fail)
  have hbq : Hid (Below w.heap.size w (w1.drewN nq)) := hb1.out.trans (below_drewN (Below.refl _ _) nq)
  generalize w1.drewN nq = wq at hbq ⊢
  go_wp2_with fail
  go_ret3
  exact ⟨rfl, hbq.out⟩
end
end Go.Proofs.Qxb6616716a
