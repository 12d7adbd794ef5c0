import Derived.Test.Qxb6616716aArr
import Derived.WalkSmall
namespace Go.Proofs.Qxb6616716a
open Go.RowKit

def ents (at_ : Nat → Int) (N : Nat) : List Ent := (List.range N).map fun s => ⟨at_ s, s⟩
theorem ents_succ (at_ : Nat → Int) (k : Nat) : ents at_ (k + 1) = ents at_ k ++ [⟨at_ k, k⟩] := by simp [ents, List.range_succ]
theorem ents_length (at_ : Nat → Int) (k : Nat) : (ents at_ k).length = k := by simp [ents]
def ptrV (tb : Nat → Nat) (s : Nat) : Value := .pointer (some ⟨tb s, 0, none⟩)

section
variable {w : World} {lo bq : Nat} {tb : Nat → Nat} {v : Value} {ix : Nat → Int}

theorem addN_lt (k : Nat) : addN (fun x => x < k) k = fun x => x < k + 1 := by
  funext x
  unfold addN
  exact propext (by omega)
theorem updF_true (s : Nat) : updF (fun _ => true) s true = fun _ => true := by
  funext x
  simp [updF]

structure BI (w wr : World) (lo bq N : Nat) (at_ : Nat → Int) (v : Value) (k : Nat) (tb : Nat → Nat) (es : List Ent) (ix : Nat → Int) : Prop where
  hq : HQ wr lo wr.heap.size bq tb (fun x => x < k) es (fun _ => true) ix
  perm : es.Perm (ents at_ k)
  arr : Arr wr 31 w.heap.size N (fun s => if s < k then ptrV tb s else .pointer none)
  mod : Mod lo w.heap.size w wr
  size : w.heap.size < wr.heap.size
  ats : Vec wr lo v N (fun j => .int .i64 (at_ j))

theorem BI.step {wr w2 : World} {N : Nat} {at_ : Nat → Int} {k : Nat} {es : List Ent} (h : BI w wr lo bq N at_ v k tb es ix) (hk : k < N) (hv : v.ownBlock ≠ some w.heap.size)
    (hp : PushPost wr lo bq tb (fun x => x < k) es (fun _ => true) ⟨at_ k, k⟩ w2) :
    ∃ es' ix', BI w (w2.setCell ⟨w.heap.size, k, none⟩ (.pointer (some ⟨wr.heap.size, 0, none⟩))) lo bq N at_ v (k + 1) (updT tb k wr.heap.size) es' ix' := by
  obtain ⟨es', ix', h1, h2, h3, h4⟩ := hp
  have hO : (31 : TypeId) ≠ 51 ∧ (31 : TypeId) ≠ 53 ∧ (31 : TypeId) ≠ 55 := by decide
  have ha := h.arr.mod hO h3
  have hoth : Other w2 w.heap.size := ha.other hO
  refine ⟨es', ix', ?_, ?_, ?_, ?_, ?_, ?_⟩
  · rw [addN_lt, updF_true] at h1
    have := h1.setFar (p := ⟨w.heap.size, k, none⟩) hoth (.pointer (some ⟨wr.heap.size, 0, none⟩))
    simpa using this
  · rw [ents_succ]
    exact h2.trans (List.Perm.append_right _ h.perm)
  · refine (ha.set hk _).congr fun j hj => ?_
    by_cases hjk : j = k
    · subst hjk
      simp [ptrV, updT]
    · by_cases hj2 : j < k
      · simp only [if_neg hjk, if_pos hj2, if_pos (show j < k + 1 by omega), ptrV, updT]
      · simp only [if_neg hjk, if_neg hj2, if_neg (show ¬ j < k + 1 by omega)]
  · exact (((h.mod.widen (Nat.le_of_lt h.size)).trans h3).cap (Nat.le_refl _)).setNew (Nat.le_refl _) _
  · have := h.size; simp; omega
  · exact (h.ats.mod h3).setNew hv _

theorem Vec.elem {ao : Option Addr} {N cap : Nat} {f : Nat → Value} (h : Vec w lo (.slice ao N cap) N f) (h0 : 0 < N) : ∃ b off, ao = some ⟨b, off, none⟩ ∧ ∀ k, k < N → w.cell? ⟨b, off + k, none⟩ = some (f k) := by
  obtain ⟨ao', cap', hv, _, _, h3⟩ := h
  simp at hv
  obtain ⟨rfl, rfl⟩ := hv
  obtain ⟨b, off, h4, _, h5⟩ := h3 h0
  exact ⟨b, off, h4, h5⟩
theorem Vec.own {N : Nat} {f : Nat → Value} (h : Vec w lo v N f) (h0 : 0 < N) {k : Nat} (hk : v.ownBlock = some k) : k < w.heap.size := by
  obtain ⟨ao', cap', rfl, _, _, h3⟩ := h
  obtain ⟨b, off, rfl, _, h5⟩ := h3 h0
  simp [Value.ownBlock] at hk
  subst hk
  exact World.block_lt_of_cell? w _ (h5 0 h0)

theorem newQueue_hq (w : World) (lo : Nat) (hl : lo ≤ w.heap.size) : HQ (w.alloc (.cells qcells 51)) lo (w.alloc (.cells qcells 51)).heap.size w.heap.size (fun _ => 0) (fun x => x < 0) [] (fun _ => true) (fun _ => 0) := by
  refine ⟨⟨.slice none 0 0, ⟨?_, ?_, fun s hs => by omega, ⟨hl, by simp⟩, fun s hs => by omega, fun k hk => (by cases hk), fun s s' hs => (by omega), fun e he => (by cases he)⟩⟩, fun j hj => by simp at hj, fun j h1 h2 => by simp at h2⟩
  · rw [heap_alloc_new w _]; rfl
  · exact World.ownsRow_nil _ _ _ _

def BuildPost (w : World) (lo bq N : Nat) (at_ : Nat → Int) (v : Value) (w' : World) : Prop := ∃ tb es ix, BI w w' lo bq N at_ v N tb es ix

set_option maxHeartbeats 2000000 in
set_option maxRecDepth 20000 in
theorem build_any {N : Nat} {at_ : Nat → Int} (h : HQ w lo w.heap.size bq tb (fun x => x < 0) [] (fun _ => true) ix) (hv : Vec w lo v N (fun j => .int .i64 (at_ j))) (hN : N ≤ 65536) :
    Calls Try.prog 9 #[.pointer (some ⟨bq, 0, none⟩), v] w fun r w' => r = .returned (.slice (some ⟨w.heap.size, 0, none⟩) N N) ∧ BuildPost w lo bq N at_ v w' := by
  have HV : Hid (Vec w lo v N (fun j => .int .i64 (at_ j))) := hv
  have HOV : Hid (0 < N → v.ownBlock ≠ some w.heap.size) := fun h0 e => by have := hv.own h0 e; omega
  have HQ0 : Hid (HQ w lo w.heap.size bq tb (fun x => x < 0) [] (fun _ => true) ix) := h
  obtain ⟨ao, cap, rfl, g1, g2, _⟩ := hv
  unfold maxLen at g2
  obtain ⟨i0, hi, hz0, hz1, hz2⟩ := info_parts info31
  clear h
  go_enter Try.func9, Try.ntmps9
  go_wp2_with (at_make; refine wpList_make_full _ rfl _ _ 27 rfl w.heap.size 31 i0 (.pointer none) 1 Try.underlying27 hi hz0 hz1 .i64 .i64 _ _ N rfl rfl rfl rfl (by rw [hz2]; omega) (by unfold maxLen; omega) (Nat.le_refl _) ?_; intro w1 hown0 hgrow0; have ha : Hid (Arr w1 31 w.heap.size N (fun _ => .pointer none)) := Arr.made hown0; replace hgrow0 : Hid (Below w.heap.size w w1) := (Below.refl _ _).grown hgrow0 (Nat.le_refl _) (fun k hk => by cases hk); clear hown0)
  have hsz : w.heap.size < w1.heap.size := ha.out.lt
  have HB0 : Hid (BI w w1 lo bq N at_ (.slice ao N cap) 0 tb [] ix) :=
    ⟨(HQ0.out.later hgrow0.out).widen (Nat.le_of_lt hsz), List.Perm.refl _, ha.out.congr (fun k _ => by simp), Mod.of_below hgrow0.out, hsz, HV.out.later hgrow0.out⟩
  clear ha hgrow0 HQ0 hi hz0 hz1 hz2
  go_loopw [6] (fun j wr => ∃ (k : Nat) (tb : Nat → Nat) (es : List Ent) (ix : Nat → Int), j = .int .i64 k ∧ k ≤ N ∧ Hid (BI w wr lo bq N at_ (.slice ao N cap) k tb es ix)) (fun j _ => N - (intOf j).toNat)
  case atStart => exact ⟨0, tb, [], ix, by go_num, by omega, HB0⟩
  case round =>
    obtain ⟨k, tb, es, ix, rfl, hk, hI⟩ := hrel
    by_cases hlt : k < N
    case neg =>
      obtain rfl : k = N := by omega
      go_wp2_with fail
      go_ret
      exact ⟨rfl, tb, es, ix, hI.out⟩
    obtain ⟨b, off, hao, hcell⟩ := hI.out.ats.elem (by omega)
    subst hao
    have c0 := hcell k hlt
    clear hcell
    have hel : es.length < 65536 := by rw [hI.out.perm.length_eq, ents_length]; omega
    have HP : Hid (Calls Try.prog 16 #[.pointer (some ⟨bq, 0, none⟩), .int .i64 (at_ k), .int .u64 k] wr fun r w' => r = .returned (.pointer (some ⟨wr.heap.size, 0, none⟩)) ∧ PushPost wr lo bq tb (fun x => x < k) es (fun _ => true) ⟨at_ k, k⟩ w') :=
      push_any hI.out.hq ⟨at_ k, k⟩ (by simp) hel
    clear hel
    go_wp2_with fail
    refine HP.out.mono ?_
    rintro r w2 ⟨rfl, hp⟩
    have HN : Hid (∃ es' ix', BI w (w2.setCell ⟨w.heap.size, k, none⟩ (.pointer (some ⟨wr.heap.size, 0, none⟩))) lo bq N at_ (.slice (some ⟨b, off, none⟩) N cap) (k + 1) (updT tb k wr.heap.size) es' ix') := hI.out.step hlt (HOV.out (by omega)) hp
    obtain ⟨_, _, _, _, hm, _⟩ := hp
    have ha := hI.out.arr.mod (by decide) hm
    have c1 := ha.cell hlt
    have f1 := ha.free k
    clear ha hm hI HP
    go_wp2_with fail
    go_roundw
    case rel =>
      obtain ⟨es', ix', hN'⟩ := HN.out
      exact ⟨k + 1, _, es', ix', by go_num, by omega, hN'⟩
    case measure => simp [intOf]; omega

set_option maxHeartbeats 2000000 in
set_option maxRecDepth 20000 in
theorem allLive_any (w : World) {N : Nat} (hN : N ≤ 65536) :
    Calls Try.prog 10 #[.int .i64 N] w fun r w' => r = .returned (.slice (some ⟨w.heap.size, 0, none⟩) N N) ∧ Arr w' 4 w.heap.size N (fun _ => .bool true) ∧ Below w.heap.size w w' := by
  obtain ⟨i0, hi, hz0, hz1, hz2⟩ := info_parts info4
  go_enter Try.func10, Try.ntmps10
  go_wp2_with (at_make; refine wpList_make_full _ rfl _ _ 29 rfl w.heap.size 4 i0 (.bool false) 1 Try.underlying29 hi hz0 hz1 .i64 .i64 _ _ N rfl rfl rfl rfl (by rw [hz2]; omega) (by unfold maxLen; omega) (Nat.le_refl _) ?_; intro w1 hown0 hgrow0; have ha : Hid (Arr w1 4 w.heap.size N (fun _ => .bool false)) := Arr.made hown0; replace hgrow0 : Hid (Below w.heap.size w w1) := (Below.refl _ _).grown hgrow0 (Nat.le_refl _) (fun k hk => by cases hk); clear hown0)
  clear hi hz0 hz1 hz2
  go_loopw [4] (fun j wr => ∃ (k : Nat), j = .int .i64 k ∧ k ≤ N ∧ Hid (Arr wr 4 w.heap.size N (fun s => .bool (decide (s < k)))) ∧ Hid (Below w.heap.size w wr)) (fun j _ => N - (intOf j).toNat)
  case atStart => exact ⟨0, by go_num, by omega, ha.out.congr (fun k _ => by simp), hgrow0⟩
  case round =>
    obtain ⟨k, rfl, hk, hA, hB⟩ := hrel
    by_cases hlt : k < N
    case neg =>
      obtain rfl : k = N := by omega
      go_wp2_with fail
      go_ret
      exact ⟨rfl, hA.out.congr (fun j hj => by simp [hj]), hB.out⟩
    have c1 := hA.out.cell hlt
    have f1 := hA.out.free k
    go_wp2_with fail
    go_roundw
    case rel =>
      refine ⟨k + 1, by go_num, by omega, (hA.out.set hlt _).congr (fun j hj => ?_), ?_⟩
      · by_cases hjk : j = k
        · subst hjk; simp
        · simp only [if_neg hjk]
          congr 1
          simp only [decide_eq_decide]
          omega
      · exact hB.out.setCell (Nat.le_refl _) _
    case measure => simp [intOf]; omega
end
end Go.Proofs.Qxb6616716a
