import Derived.Test.Qxb6616716aDrain
namespace Go.Proofs.Qxb6616716a
open Go.RowKit

section
variable {w : World} {lo hi bq : Nat} {tb : Nat → Nat} {N : Nat} {at_ : Nat → Int} {live : Nat → Bool} {es : List Ent} {ix : Nat → Int}

theorem erase_filter (h : IxOk es ix) {j : Nat} (hj : j < es.length) : es.eraseIdx j = es.filter (fun x => decide (x.seq ≠ (E es j).seq)) := by
  have key : ∀ p : Ent → Bool, es.filter p = (es.take j).filter p ++ (es.drop j).filter p := fun p => by rw [← List.filter_append, List.take_append_drop]
  have hm : ∀ x ∈ es.take j ++ es.drop (j + 1), x.seq ≠ (E es j).seq := fun x hx => h.out hj (by rw [List.eraseIdx_eq_take_drop_succ]; exact hx)
  rw [key, List.drop_eq_getElem_cons hj, List.filter_cons, if_neg (by rw [E_get hj]; simp), List.eraseIdx_eq_take_drop_succ]
  rw [List.filter_eq_self.2, List.filter_eq_self.2]
  · exact fun x hx => decide_eq_true (hm x (List.mem_append_right _ hx))
  · exact fun x hx => decide_eq_true (hm x (List.mem_append_left _ hx))
theorem stop_perm (h : IxOk es ix) {j : Nat} (hj : j < es.length) (hp : es.Perm (lents at_ live N)) : (es.eraseIdx j).Perm (lents at_ (updF live (E es j).seq false) N) := by
  rw [erase_filter h hj]
  refine (hp.filter _).trans ?_
  unfold lents
  rw [List.filter_filter]
  refine List.Perm.of_eq (List.filter_congr fun x _ => ?_)
  unfold updF
  by_cases he : x.seq = (E es j).seq
  · simp [he]
  · simp [he]

theorem lents_all (at_ : Nat → Int) (N : Nat) : lents at_ (fun _ => true) N = ents at_ N := by
  unfold lents
  exact List.filter_eq_self.2 fun _ _ => rfl
theorem lents_succ (at_ : Nat → Int) (live : Nat → Bool) (k : Nat) : lents at_ live (k + 1) = lents at_ live k ++ if live k then [⟨at_ k, k⟩] else [] := by
  unfold lents
  rw [ents_succ, List.filter_append]
  congr 1
  cases h : live k <;> simp [h]

theorem Good.stop {w' : World} {j : Nat} (h : Good w lo hi bq tb N at_ live es ix) (hj : j < es.length) (hp : StopHQ w lo hi bq tb (fun x => x < N) es j (E es j).seq live ix w') :
    ∃ es' ix', Good w' lo hi bq tb N at_ (updF live (E es j).seq false) es' ix' ∧ ix' (E es j).seq = -1 ∧ Mod lo hi w w' := by
  obtain ⟨es', ix', h1, h2, h3, h4, h5⟩ := hp
  refine ⟨es', ix', ⟨h1, h2.trans (stop_perm h.hq.ixok hj h.perm), fun s hs hl => ?_⟩, h3, h5⟩
  by_cases he : s = (E es j).seq
  · rw [he]; exact h3
  · unfold updF at hl
    rw [if_neg he] at hl
    rw [h4 s fun x hx hxs => ?_]
    · exact h.dead s hs hl
    · have := (h.mem.1 hx).2.1
      rw [hxs, hl] at this
      cases this
theorem updF_same {s : Nat} (h : live s = false) : updF live s false = live := by
  funext x
  unfold updF
  by_cases hx : x = s
  · rw [if_pos hx, hx, h]
  · rw [if_neg hx]

theorem BI.good {w1 w2 : World} {v : Value} (h : BI w1 w2 lo bq N at_ v N tb es ix) : Good w2 lo w2.heap.size bq tb N at_ (fun _ => true) es ix :=
  ⟨h.hq, by rw [lents_all]; exact h.perm, fun s _ hl => by cases hl⟩
theorem BI.ts {w1 w2 : World} {v : Value} (h : BI w1 w2 lo bq N at_ v N tb es ix) : Arr w2 31 w1.heap.size N (ptrV tb) := h.arr.congr fun k hk => by rw [if_pos hk]

theorem Good.mod {w' : World} {lo' hi' : Nat} (h : Good w lo hi bq tb N at_ live es ix) (hm : Mod lo' hi' w w') (hd : hi ≤ lo' ∨ hi' ≤ lo) : Good w' lo hi bq tb N at_ live es ix := ⟨h.hq.mod hm hd, h.perm, h.dead⟩

/-! ### the bounds on the arguments -/
set_option maxHeartbeats 1000000 in
set_option maxRecDepth 20000 in
theorem bytes15 (w : World) (a : Option Addr) (len cap : Nat) (k : Int) : Calls Try.prog 15 #[.slice a len cap, .int .i64 k] w fun r w' => r = .returned (.bool (decide (len ≤ 1048576))) ∧ w' = w := by
  by_cases h : len ≤ 1048576
  · have hd : decide (len ≤ 1048576) = true := by simp [h]
    rw [hd]
    clear hd
    go_enter Try.func15, Try.ntmps15
    go_wp2_with fail
    go_ret
    exact ⟨rfl, rfl⟩
  · have hd : decide (len ≤ 1048576) = false := by simp; omega
    rw [hd]
    clear hd
    go_enter Try.func15, Try.ntmps15
    go_wp2_with fail
    go_ret
    exact ⟨rfl, rfl⟩
set_option maxHeartbeats 1000000 in
set_option maxRecDepth 20000 in
theorem bytes21 (w : World) (a : Option Addr) (len cap : Nat) : Calls Try.prog 21 #[.slice a len cap] w fun r w' => r = .returned (.bool (decide (len ≤ 1048576))) ∧ w' = w := by
  by_cases h : len ≤ 1048576
  · have hd : decide (len ≤ 1048576) = true := by simp [h]
    rw [hd]
    clear hd
    go_enter Try.func21, Try.ntmps21
    go_wp2_with fail
    go_ret
    exact ⟨rfl, rfl⟩
  · have hd : decide (len ≤ 1048576) = false := by simp; omega
    rw [hd]
    clear hd
    go_enter Try.func21, Try.ntmps21
    go_wp2_with fail
    go_ret
    exact ⟨rfl, rfl⟩
set_option maxHeartbeats 1000000 in
set_option maxRecDepth 20000 in
theorem bytes23 (w : World) (a : Option Addr) (len cap : Nat) (k d : Int) : Calls Try.prog 23 #[.slice a len cap, .int .i64 k, .int .i64 d] w fun r w' => r = .returned (.bool (decide (len ≤ 1048576))) ∧ w' = w := by
  by_cases h : len ≤ 1048576
  · have hd : decide (len ≤ 1048576) = true := by simp [h]
    rw [hd]
    clear hd
    go_enter Try.func23, Try.ntmps23
    go_wp2_with fail
    go_ret
    exact ⟨rfl, rfl⟩
  · have hd : decide (len ≤ 1048576) = false := by simp; omega
    rw [hd]
    clear hd
    go_enter Try.func23, Try.ntmps23
    go_wp2_with fail
    go_ret
    exact ⟨rfl, rfl⟩
set_option maxHeartbeats 1000000 in
set_option maxRecDepth 20000 in
theorem bytes7 (w : World) (a b : Option Addr) (len cap len2 cap2 : Nat) : Calls Try.prog 7 #[.slice a len cap, .slice b len2 cap2] w fun r w' => ∃ B, r = .returned (.bool B) ∧ w' = w := by
  by_cases h : len ≤ 1048576
  case neg =>
    go_enter Try.func7, Try.ntmps7
    go_wp2_with fail
    go_ret
    exact ⟨_, rfl, rfl⟩
  by_cases h' : len2 ≤ 1048576
  case neg =>
    go_enter Try.func7, Try.ntmps7
    go_wp2_with fail
    go_ret
    exact ⟨_, rfl, rfl⟩
  by_cases h'' : len + len2 ≤ 1048576
  case neg =>
    go_enter Try.func7, Try.ntmps7
    go_wp2_with fail
    go_ret
    exact ⟨_, rfl, rfl⟩
  go_enter Try.func7, Try.ntmps7
  go_wp2_with fail
  go_ret
  exact ⟨_, rfl, rfl⟩
end
end Go.Proofs.Qxb6616716a
