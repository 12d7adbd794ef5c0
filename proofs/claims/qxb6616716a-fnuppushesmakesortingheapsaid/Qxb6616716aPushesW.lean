import Derived.Test.Qxb6616716aRoot
import Derived.Deep.DeepCutAuto
namespace Go.Proofs.Qxb6616716a
open Go.RowKit

set_option maxHeartbeats 8000000 in
set_option maxRecDepth 20000 in
theorem pushes_any (w : World) (a0 : Option Addr) (N cap0 : Nat) (at_ : Nat → Int) (hv : Vec w w.heap.size (.slice a0 N cap0) N (fun j => .int .i64 (at_ j))) :
    Calls Try.prog 5 #[.slice a0 N cap0] w fun e w' => e = .returned (.bool true) ∧ Below w.heap.size w w' := by
  obtain ⟨lo, hlo⟩ : ∃ lo, lo = w.heap.size := ⟨_, rfl⟩
  have HV : Hid (Vec w lo (.slice a0 N cap0) N (fun j => .int .i64 (at_ j))) := by rw [hlo]; exact hv
  have HOV : Hid (0 < N → (Value.slice a0 N cap0).ownBlock ≠ some (lo + 1)) := fun h0 e => by have := hv.own h0 e; omega
  have hcp : N ≤ cap0 ∧ cap0 ≤ maxLen := by
    obtain ⟨_, _, h, h1, h2, _⟩ := hv
    simp at h
    omega
  obtain ⟨g1, g2⟩ := hcp
  unfold maxLen at g2
  obtain ⟨i0, hi, hz0, hz1, hz2⟩ := info_parts info31
  have HLO : Hid (lo = w.heap.size) := hlo
  clear hv
  rw [← hlo]
  clear hlo
  go_enter Try.func5, Try.ntmps5
  go_wp2_with fail
  refine (bytes21 w a0 N cap0).mono ?_
  rintro r w1 ⟨rfl, hw1⟩
  rw [hw1]
  clear hw1 w1
  have hfin : Hid (Below lo w w) := Below.refl _ _
  by_cases hN : N ≤ 65536
  case neg =>
    by_cases hN2 : N ≤ 1048576
    · rw [decide_eq_true hN2]
      go_wp2_with fail
      go_ret
      exact ⟨rfl, hfin.out⟩
    · rw [decide_eq_false hN2]
      go_wp2_with fail
      go_ret
      exact ⟨rfl, hfin.out⟩
  rw [decide_eq_true (show N ≤ 1048576 by omega)]
  go_wp2_with fail
  refine (newQueue_any w).mono ?_
  rintro r w1 ⟨rfl, hw1⟩
  have HQ1 : Hid (HQ w1 lo w1.heap.size lo (fun _ => 0) (fun x => x < 0) [] (fun _ => true) (fun _ => 0)) := by
    have := newQueue_hq w lo (by rw [HLO.out]; exact Nat.le_refl _)
    rw [← hw1, ← HLO.out] at this
    exact this
  have HB1 : Hid (Below w.heap.size w w1) := by rw [hw1]; exact (Below.refl _ _).alloc (Nat.le_refl _) _
  have HV1 : Hid (Vec w1 lo (.slice a0 N cap0) N (fun j => .int .i64 (at_ j))) := HV.out.later HB1.out
  have hs1 : Hid (w1.heap.size = lo + 1) := by unfold Hid; rw [hw1, HLO.out]; simp
  clear hw1 HV
  rw [← HLO.out]
  go_wp2_with (at_make; refine wpList_make_full _ rfl _ _ 27 rfl w1.heap.size 31 i0 (.pointer none) 1 Try.underlying27 hi hz0 hz1 .i64 .i64 _ _ N rfl rfl rfl rfl (by rw [hz2]; omega) (by unfold maxLen; omega) (Nat.le_refl _) ?_; intro w2 hown0 hgrow0; have ha : Hid (Arr w2 31 w1.heap.size N (fun _ => .pointer none)) := Arr.made hown0; replace hgrow0 : Hid (Below w1.heap.size w1 w2) := (Below.refl _ _).grown hgrow0 (Nat.le_refl _) (fun k hk => by cases hk); clear hown0)
  have hsz : w1.heap.size < w2.heap.size := ha.out.lt
  have HB0 : Hid (BI w1 w2 lo lo N at_ (.slice a0 N cap0) 0 (fun _ => 0) [] (fun _ => 0)) :=
    ⟨(HQ1.out.later hgrow0.out).widen (Nat.le_of_lt hsz), List.Perm.refl _, ha.out.congr (fun k _ => by simp), Mod.of_below hgrow0.out, hsz, HV1.out.later hgrow0.out⟩
  clear ha hgrow0 HQ1 hi hz0 hz1 hz2 hsz HV1
  obtain ⟨gt, hgt⟩ : ∃ gt, gt = w1.heap.size := ⟨_, rfl⟩
  rw [← hgt]
  have HGT : Hid (gt = w1.heap.size) := hgt
  clear hgt
  go_loopw [6, 7, 8, 9, 10, 11] (fun ma ms i x1 x2 x3 wr => ∃ (k : Nat) (tb : Nat → Nat) (es : List Ent) (ix : Nat → Int) (p : Ent), i = .int .i64 k ∧ ma = .int .i64 p.at_ ∧ ms = .int .u64 p.seq ∧ (∃ y1, x1 = y1) ∧ (∃ y2, x2 = y2) ∧ (∃ y3, x3 = y3) ∧ k ≤ N ∧ Hid (0 < k → E es 0 = p) ∧ Hid (BI w1 wr lo lo N at_ (.slice a0 N cap0) k tb es ix)) (fun _ _ i _ _ _ _ => N - (intOf i).toNat)
  case atStart => exact ⟨0, _, _, _, ⟨0, 0⟩, by go_num, rfl, by go_num, ⟨_, rfl⟩, ⟨_, rfl⟩, ⟨_, rfl⟩, by omega, fun h => by omega, HB0⟩
  case round =>
    obtain ⟨k, tb, es, ix, p, rfl, rfl, rfl, ⟨y1, e1⟩, ⟨y2, e2⟩, ⟨y3, e3⟩, hk, hR, hI⟩ := hrel
    subst e1 e2 e3
    by_cases hlt : k < N
    case neg =>
      have hkN : N = k := by omega
      subst hkN
      have HG : Hid (Good wr lo wr.heap.size lo tb N at_ (fun _ => true) es ix) := hI.out.good
      have HT : Hid (Arr wr 31 gt N (ptrV tb)) := by
        have := hI.out.ts
        rw [← HGT.out] at this
        exact this
      have HVr : Hid (Vec wr lo (.slice a0 N cap0) N (fun j => .int .i64 (at_ j))) := hI.out.ats
      have HBr : Hid (Below lo w wr) := by
        have h1 := HB1.out
        rw [← HLO.out] at h1
        exact h1.trans (hI.out.mod.below (by rw [HLO.out]; exact HB1.out.size))
      clear hI hR HB0 HB1
      go_wp2_with fail
      refine (allLive_any wr hN).mono ?_
      rintro r w2 ⟨rfl, hal, hb2⟩
      have HG2 : Hid (Good w2 lo wr.heap.size lo tb N at_ (fun _ => true) es ix) := HG.out.later hb2
      have HV2 : Hid (Vec w2 lo (.slice a0 N cap0) N (fun j => .int .i64 (at_ j))) := HVr.out.later hb2
      have HT2 : Hid (Vec w2 lo (.slice (some ⟨gt, 0, none⟩) N N) N (ptrV tb)) := (HT.out.mod (lo := 0) (hi := 0) (by decide) (Mod.of_below hb2)).vec (by decide) hN
      have HL2 : Hid (Vec w2 lo (.slice (some ⟨wr.heap.size, 0, none⟩) N N) N (fun _ => .bool true)) := hal.vec (by decide) hN
      have HB2 : Hid (Below lo w w2) := HBr.out.trans (hb2.mono (by rw [HLO.out]; exact HBr.out.size))
      have hs2 : wr.heap.size ≤ w2.heap.size := hb2.size
      clear hal hb2 HG HT HVr HBr
      go_wp2_with fail
      refine (holds_any HG2.out HT2.out HV2.out HL2.out hN).mono ?_
      rintro r w3 ⟨rfl, hb3⟩
      have HD : Hid (Calls Try.prog 14 #[.pointer (some ⟨lo, 0, none⟩), .slice (some ⟨gt, 0, none⟩) N N, .slice a0 N cap0, .slice (some ⟨wr.heap.size, 0, none⟩) N N] w3 fun r w' => r = .returned (.bool true) ∧ Mod lo wr.heap.size w3 w') :=
        drain_any (HG2.out.later hb3) (HT2.out.later hb3) (HV2.out.later hb3) (HL2.out.later hb3) hN (Nat.le_trans hs2 hb3.size)
      have HB3 : Hid (Below lo w w3) := HB2.out.trans (hb3.mono (by rw [HLO.out]; exact HB2.out.size))
      clear hb3 HG2 HV2 HT2 HL2
      go_wp2_with fail
      refine HD.out.mono ?_
      rintro r w4 ⟨rfl, hm4⟩
      have HB4 : Hid (Below lo w w4) := HB3.out.trans (hm4.below (by rw [HLO.out]; exact HB3.out.size))
      clear hm4
      go_wp2_with fail
      go_ret
      exact ⟨rfl, HB4.out⟩
    obtain ⟨b, off, hao, hcell⟩ := hI.out.ats.elem (by omega)
    subst hao
    have c0 := hcell k hlt
    clear hcell
    have hel : es.length < 65536 := by rw [hI.out.perm.length_eq, ents_length]; omega
    have HP : Hid (Calls Try.prog 16 #[.pointer (some ⟨lo, 0, none⟩), .int .i64 (at_ k), .int .u64 k] wr fun r w' => r = .returned (.pointer (some ⟨wr.heap.size, 0, none⟩)) ∧ PushPost wr lo lo tb (fun x => x < k) es (fun _ => true) ⟨at_ k, k⟩ w') :=
      push_any hI.out.hq ⟨at_ k, k⟩ (by simp) hel
    clear hel
    go_wp2_with fail
    refine HP.out.mono ?_
    rintro r w2 ⟨rfl, hp⟩
    obtain ⟨es2, ix2, hI2, hpm⟩ := hI.out.step2 hlt (by rw [hs1.out]; exact HOV.out (by omega)) hp
    rw [← HGT.out] at hI2
    obtain ⟨w3, hw3⟩ : ∃ w3, w3 = w2.setCell ⟨gt, k, none⟩ (.pointer (some ⟨wr.heap.size, 0, none⟩)) := ⟨_, rfl⟩
    rw [← hw3] at hI2
    have hroot := hI.out.root hI2 hpm hR.out
    obtain ⟨q, hq⟩ : ∃ q, q = nextRoot k ⟨at_ k, k⟩ p := ⟨_, rfl⟩
    have HQE : Hid (q = nextRoot k ⟨at_ k, k⟩ p) := hq
    rw [← hq] at hroot
    clear hq
    have HR2 : Hid (0 < k + 1 → E es2 0 = q) := fun _ => hroot
    have HI2 : Hid (BI w1 w3 lo lo N at_ (.slice (some ⟨b, off, none⟩) N cap0) (k + 1) (updT tb k wr.heap.size) es2 ix2) := hI2
    have hl2 : es2.length = k + 1 := by rw [hI2.perm.length_eq, ents_length]
    have hqs : q.seq < k + 1 := by rw [← hroot]; exact hI2.seq_lt (E_mem (by omega))
    have c1 : w2.cell? ⟨gt, k, none⟩ = some (.pointer none) := by
      obtain ⟨_, _, _, _, hm, _⟩ := hp
      have := (hI.out.arr.mod (by decide) hm).cell hlt
      rw [if_neg (by omega), ← HGT.out] at this
      exact this
    have f1 : w2.frozen? ⟨gt, k, none⟩ = false := by
      obtain ⟨_, _, _, _, hm, _⟩ := hp
      have := (hI.out.arr.mod (by decide) hm).free k
      rw [← HGT.out] at this
      exact this
    obtain ⟨v2, hq2⟩ := hI2.hq.qs
    have HQ2 : Hid (QS w3 lo w3.heap.size lo (updT tb k wr.heap.size) (fun x => x < k + 1) v2 es2 (fun _ => true) ix2) := hq2
    have HE : Hid (Calls Try.prog 22 #[.pointer (some ⟨lo, 0, none⟩), .int .i64 0] w3 fun r w' => r = .returned (.tuple #[.int .i64 q.at_, .int .u64 q.seq, .pointer (some ⟨updT tb k wr.heap.size q.seq, 0, none⟩)]) ∧ Below w3.heap.size w3 w') := by
      have := entry_any hq2 0 (by omega)
      rw [hroot] at this
      exact this
    have c2 : w3.cell? ⟨b, off + k, none⟩ = some (.int .i64 (at_ k)) := by
      obtain ⟨b', off', hb', hc'⟩ := hI2.ats.elem (by omega)
      simp at hb'
      obtain ⟨rfl, rfl⟩ := hb'
      exact hc' k hlt
    have c3 : w3.cell? ⟨gt, q.seq, none⟩ = some (.pointer (some ⟨updT tb k wr.heap.size q.seq, 0, none⟩)) := by
      have := hI2.arr.cell (k := q.seq) (by omega)
      rw [if_pos hqs, ← HGT.out] at this
      exact this
    have hnp := neq_ptr ⟨updT tb k wr.heap.size q.seq, 0, none⟩
    clear hq2 hI2 hp hpm hI HP hroot hR
    go_upto_region 14 with fail
    rw [← hw3]
    clear hw3 c1 f1
    obtain ⟨B, hB⟩ : ∃ B, B = (decide (k = 0) || Ent.lt ⟨at_ k, k⟩ p) := ⟨_, rfl⟩
    have HB : Hid (B = (decide (k = 0) || Ent.lt ⟨at_ k, k⟩ p)) := hB
    clear hB
    go_cut [52] (fun x wd => x = .bool B ∧ wd = w3)
    case first =>
      by_cases hk0 : k = 0
      · subst hk0
        have hBt : B = true := by rw [HB.out]; simp
        subst hBt
        go_wp2_with fail
        go_meet
        case rel => exact ⟨rfl, rfl⟩
      · have hk0' : (k : Int) ≠ 0 := by omega
        have HZ : Hid (Calls Try.prog 20 #[.int .i64 (at_ k), .int .u64 k, .int .i64 p.at_, .int .u64 p.seq] w3 fun e w' => e = .returned (.bool B) ∧ w' = w3) := by
          have := zzBefore_any w3 ⟨at_ k, k⟩ p
          rw [HB.out, decide_eq_false hk0]
          exact this
        go_wp2_with fail
        refine HZ.out.mono ?_
        rintro r w4 ⟨rfl, hw4⟩
        rw [hw4]
        clear hw4 w4
        have hkb : ((k : Int) == 0) = false := by simp; omega
        go_wp2_with fail
        go_meet
        case rel => exact ⟨rfl, rfl⟩
    case rest =>
    obtain ⟨rfl, hwc⟩ := hcut
    subst hwc
    go_upto_if 52 with fail
    go_cut [6, 7] (fun x y wd => x = .int .i64 q.at_ ∧ y = .int .u64 q.seq ∧ wd = wc)
    case first =>
      cases B
      · have hqp : q = p := by
          have h1 := HB.out
          rw [HQE.out]
          unfold nextRoot
          simp at h1
          rw [if_neg h1.1, if_neg (by rw [h1.2]; simp)]
        subst hqp
        go_wp2_with fail
        go_meet
        case rel => exact ⟨rfl, rfl, rfl⟩
      · have hqe : q = ⟨at_ k, k⟩ := by
          have h1 := HB.out
          rw [HQE.out]
          unfold nextRoot
          simp at h1
          by_cases hk0 : k = 0
          · rw [if_pos hk0]
          · rw [if_neg hk0, if_pos (h1.resolve_left hk0)]
        subst hqe
        go_wp2_with fail
        go_meet
        case rel => exact ⟨rfl, rfl, rfl⟩
    case rest =>
    obtain ⟨rfl, rfl, hwc⟩ := hcut
    subst hwc
    clear HB HQE
    go_wp2_with fail
    refine (len_any HQ2.out).mono ?_
    rintro r w4 ⟨rfl, hw4⟩
    rw [hw4, hl2]
    clear hw4 w4 hl2
    go_wp2_with fail
    refine HE.out.mono ?_
    rintro r w5 ⟨rfl, hb5⟩
    have d3 := (hb5.cell (World.block_lt_of_cell? wc _ c3)).trans c3
    have HI3 : Hid (BI w1 w5 lo lo N at_ (.slice (some ⟨b, off, none⟩) N cap0) (k + 1) (updT tb k wr.heap.size) es2 ix2) :=
      ⟨(HI2.out.hq.later hb5).widen hb5.size, HI2.out.perm, HI2.out.arr.mod (lo := 0) (hi := 0) (by decide) (Mod.of_below hb5), HI2.out.mod.trans (Mod.of_below hb5), Nat.lt_of_lt_of_le HI2.out.size hb5.size, HI2.out.ats.later hb5⟩
    clear hb5 HI2 HQ2 HE
    go_wp2_with fail
    go_roundw
    case rel => exact ⟨k + 1, _, es2, ix2, q, by go_num, rfl, rfl, ⟨_, rfl⟩, ⟨_, rfl⟩, ⟨_, rfl⟩, by omega, HR2, HI3⟩
    case measure => simp [intOf]; omega
end Go.Proofs.Qxb6616716a
