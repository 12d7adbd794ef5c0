import Derived.Test.Qxb6616716aLaws
namespace Go.Proofs.Qxb6616716a
open Go.RowKit

section
variable {w : World} {lo hi bq : Nat} {tb : Nat → Nat} {N : Nat} {at_ : Nat → Int} {live : Nat → Bool} {es : List Ent} {ix : Nat → Int}

/-- the state of the script -/
structure SI (w wr : World) (lo mid gt gl : Nat) (ta : Nat → Nat) (N : Nat) (at_ : Nat → Int) (live : Nat → Bool) (es : List Ent) (ix : Nat → Int) : Prop where
  good : Good wr lo mid lo ta N at_ live es ix
  liv : Arr wr 4 gl N (fun s => .bool (live s))
  ts : Arr wr 31 gt N (ptrV ta)
  below : Below lo w wr
  size : mid ≤ wr.heap.size
theorem SI.set {wr w2 : World} {mid gt gl : Nat} {ta : Nat → Nat} {s : Nat} {live2 : Nat → Bool} {es2 : List Ent} {ix2 : Nat → Int} (h : SI w wr lo mid gt gl ta N at_ live es ix) (hs : s < N) (hne : gt ≠ gl) (hl : lo ≤ gl) (hlo : lo = w.heap.size)
    (hg : Good w2 lo mid lo ta N at_ live2 es2 ix2) (h2 : live2 = updF live s false) (hm : Mod lo mid wr w2) : SI w (w2.setCell ⟨gl, s, none⟩ (.bool false)) lo mid gt gl ta N at_ live2 es2 ix2 := by
  have h4 : (4 : TypeId) ≠ 51 ∧ (4 : TypeId) ≠ 53 ∧ (4 : TypeId) ≠ 55 := by decide
  have ha := h.liv.mod h4 hm
  refine ⟨⟨hg.hq.setFar (p := ⟨gl, s, none⟩) (ha.other h4) _, hg.perm, hg.dead⟩, (ha.set hs _).congr fun j hj => ?_, (h.ts.mod (by decide) hm).setOther hne _, ?_, ?_⟩
  · rw [h2]
    unfold updF
    by_cases hjs : j = s
    · simp [hjs]
    · simp [hjs]
  · exact (h.below.trans (hm.below (by rw [hlo]; exact h.below.size))).setCell hl _
  · have := h.size
    have := hm.size
    simp
    omega
end

set_option maxHeartbeats 8000000 in
set_option maxRecDepth 20000 in
theorem script_any (w : World) (a0 : Option Addr) (N cap0 : Nat) (at_ : Nat → Int) (a1 : Option Addr) (M cap1 : Nat) (st : Nat → Int) (hv : Vec w w.heap.size (.slice a0 N cap0) N (fun j => .int .i64 (at_ j))) (hs : Vec w w.heap.size (.slice a1 M cap1) M (fun j => .int .i64 (st j))) :
    Calls Try.prog 3 #[.slice a0 N cap0, .slice a1 M cap1] w fun e w' => e = .returned (.bool true) ∧ Below w.heap.size w w' := by
  obtain ⟨lo, hlo⟩ : ∃ lo, lo = w.heap.size := ⟨_, rfl⟩
  have HV : Hid (Vec w lo (.slice a0 N cap0) N (fun j => .int .i64 (at_ j))) := by rw [hlo]; exact hv
  have HS : Hid (Vec w lo (.slice a1 M cap1) M (fun j => .int .i64 (st j))) := by rw [hlo]; exact hs
  have hcp : N ≤ cap0 ∧ cap0 ≤ maxLen := by
    obtain ⟨_, _, h, h1, h2, _⟩ := hv
    simp at h
    omega
  have hcs : M ≤ cap1 ∧ cap1 ≤ maxLen := by
    obtain ⟨_, _, h, h1, h2, _⟩ := hs
    simp at h
    omega
  obtain ⟨g1, g2⟩ := hcp
  obtain ⟨g3, g4⟩ := hcs
  unfold maxLen at g2 g4
  have HLO : Hid (lo = w.heap.size) := hlo
  clear hv hs
  rw [← hlo]
  clear hlo
  go_enter Try.func3, Try.ntmps3
  go_wp2_with fail
  refine (bytes7 w a0 a1 N cap0 M cap1).mono ?_
  rintro r w1 ⟨B, rfl, hw1⟩
  rw [hw1]
  clear hw1 w1
  have hfin : Hid (Below lo w w) := Below.refl _ _
  cases B
  · go_wp2_with fail
    go_ret
    exact ⟨rfl, hfin.out⟩
  by_cases hN : N ≤ 65536
  case neg =>
    go_wp2_with fail
    go_ret
    exact ⟨rfl, hfin.out⟩
  by_cases hM : M ≤ 65536
  case neg =>
    go_wp2_with fail
    go_ret
    exact ⟨rfl, hfin.out⟩
  go_wp2_with fail
  refine (newQueue_any w).mono ?_
  rintro r w1 ⟨rfl, hw1⟩
  have HQ1 : Hid (HQ w1 lo w1.heap.size lo (fun _ => 0) (fun x => x < 0) [] (fun _ => true) (fun _ => 0)) := by
    have := newQueue_hq w lo (by rw [HLO.out]; exact Nat.le_refl _)
    rw [← hw1, ← HLO.out] at this
    exact this
  have HB1 : Hid (Below w.heap.size w w1) := by rw [hw1]; exact (Below.refl _ _).alloc (Nat.le_refl _) _
  have HV1 : Hid (Vec w1 lo (.slice a0 N cap0) N (fun j => .int .i64 (at_ j))) := HV.out.later HB1.out
  clear hw1
  rw [← HLO.out]
  go_wp2_with fail
  refine (build_any HQ1.out HV1.out hN).mono ?_
  rintro r w2 ⟨rfl, ta, es, ix, hBI⟩
  have HGA : Hid (Good w2 lo w2.heap.size lo ta N at_ (fun _ => true) es ix) := hBI.good
  have HTS : Hid (Arr w2 31 w1.heap.size N (ptrV ta)) := hBI.ts
  have HB2 : Hid (Below lo w w2) := by
    have h1 := HB1.out
    rw [← HLO.out] at h1
    exact h1.trans (hBI.mod.below (by have := HB1.out.size; rw [HLO.out]; exact this))
  have hgl : w1.heap.size < w2.heap.size := hBI.size
  clear hBI HB1 HV1 HQ1
  obtain ⟨gt, hgt⟩ : ∃ gt, gt = w1.heap.size := ⟨_, rfl⟩
  rw [← hgt] at HTS hgl ⊢
  clear hgt
  go_wp2_with fail
  refine (allLive_any w2 hN).mono ?_
  rintro r w3 ⟨rfl, hal, hb3⟩
  obtain ⟨mid, hmid⟩ : ∃ mid, mid = w2.heap.size := ⟨_, rfl⟩
  have HS0 : Hid (SI w w3 lo mid gt mid ta N at_ (fun _ => true) es ix) := by
    rw [hmid]
    exact ⟨HGA.out.later hb3, hal, HTS.out.mod (lo := 0) (hi := 0) (by decide) (Mod.of_below hb3), HB2.out.trans (hb3.mono (by rw [HLO.out]; exact HB2.out.size)), hb3.size⟩
  have hlm : lo ≤ mid := by rw [hmid, HLO.out]; exact HB2.out.size
  rw [← hmid] at hgl ⊢
  clear hmid hal hb3 HB2 HTS HGA
  go_wp2_with fail
  go_loopw [9, 10] (fun i x1 wr => ∃ (m : Nat) (live : Nat → Bool) (es : List Ent) (ix : Nat → Int), i = .int .i64 m ∧ (∃ y1, x1 = y1) ∧ m ≤ M ∧ Hid (SI w wr lo mid gt mid ta N at_ live es ix)) (fun i _ _ => M - (intOf i).toNat)
  case atStart => exact ⟨0, _, es, ix, by go_num, ⟨_, rfl⟩, by omega, HS0⟩
  case round =>
    obtain ⟨m, live, es, ix, rfl, ⟨y1, e1⟩, hm, hI⟩ := hrel
    subst e1
    by_cases hmM : m < M
    case neg =>
      have HVr : Hid (Vec wr lo (.slice a0 N cap0) N (fun j => .int .i64 (at_ j))) := HV.out.later (by rw [← HLO.out]; exact hI.out.below)
      have HT2 : Hid (Vec wr lo (.slice (some ⟨gt, 0, none⟩) N N) N (ptrV ta)) := hI.out.ts.vec (by decide) hN
      have HL2 : Hid (Vec wr lo (.slice (some ⟨mid, 0, none⟩) N N) N (fun s => .bool (live s))) := hI.out.liv.vec (by decide) hN
      go_wp2_with fail
      refine (holds_any hI.out.good HT2.out HVr.out HL2.out hN).mono ?_
      rintro r w3 ⟨rfl, hb3⟩
      have HD : Hid (Calls Try.prog 14 #[.pointer (some ⟨lo, 0, none⟩), .slice (some ⟨gt, 0, none⟩) N N, .slice a0 N cap0, .slice (some ⟨mid, 0, none⟩) N N] w3 fun r w' => r = .returned (.bool true) ∧ Mod lo mid w3 w') :=
        drain_any (hI.out.good.later hb3) (HT2.out.later hb3) (HVr.out.later hb3) (HL2.out.later hb3) hN (Nat.le_trans hI.out.size hb3.size)
      have HB3 : Hid (Below lo w w3) := hI.out.below.trans (hb3.mono (by rw [HLO.out]; exact hI.out.below.size))
      clear hb3
      go_wp2_with fail
      refine HD.out.mono ?_
      rintro r w4 ⟨rfl, hm4⟩
      have HB4 : Hid (Below lo w w4) := HB3.out.trans (hm4.below (by rw [HLO.out]; exact HB3.out.size))
      clear hm4
      go_wp2_with fail
      go_ret
      exact ⟨rfl, HB4.out⟩
    obtain ⟨b, off, hao, hcell⟩ := (HS.out.later (by rw [← HLO.out]; exact hI.out.below)).elem (by omega)
    subst hao
    have c0 := hcell m hmM
    clear hcell
    obtain ⟨sv, hsv⟩ : ∃ sv, sv = st m := ⟨_, rfl⟩
    rw [← hsv] at c0
    clear hsv
    by_cases hs0 : sv < 0
    case pos =>
      go_wp2_with fail
      go_roundw
      case rel => exact ⟨m + 1, live, es, ix, by go_num, ⟨_, rfl⟩, by omega, hI⟩
      case measure => simp [intOf]; omega
    by_cases hs1 : sv < N
    case neg =>
      go_wp2_with fail
      go_roundw
      case rel => exact ⟨m + 1, live, es, ix, by go_num, ⟨_, rfl⟩, by omega, hI⟩
      case measure => simp [intOf]; omega
    obtain ⟨s, rfl⟩ : ∃ s : Nat, sv = s := ⟨sv.toNat, by omega⟩
    have hsN : s < N := by omega
    clear hs0 hs1
    have HST : Hid (Calls Try.prog 11 #[.pointer (some ⟨ta s, 0, none⟩)] wr fun r w' => r = .returned (.tuple #[]) ∧ ∃ es2 ix2, Good w' lo mid lo ta N at_ (updF live s false) es2 ix2 ∧ ix2 s = -1 ∧ Mod lo mid wr w') := by
      cases hlv : live s with
      | false =>
        have hix := hI.out.good.dead s hsN hlv
        refine (stop_out hI.out.good.hq s hsN hix).mono ?_
        rintro r w' ⟨rfl, rfl⟩
        exact ⟨rfl, es, ix, by rw [updF_same hlv]; exact hI.out.good, hix, Mod.refl _ _ _⟩
      | true =>
        obtain ⟨j, hj, he, hix⟩ := hI.out.good.at hsN hlv
        have hes : (E es j).seq = s := by rw [he]
        have hel : es.length ≤ 65536 := by rw [hI.out.good.length]; exact Nat.le_trans (cnt_le _ _) hN
        refine (stop_in hI.out.good.hq j hj s hsN hes hI.out.size hel).mono ?_
        rintro r w' ⟨rfl, hst⟩
        have hgs := hI.out.good.stop hj (by rw [hes]; exact hst)
        rw [hes] at hgs
        exact ⟨rfl, hgs⟩
    have c1 := hI.out.ts.cell hsN
    unfold ptrV at c1
    go_wp2_with fail
    refine HST.out.mono ?_
    rintro r w4 ⟨rfl, es2, ix2, hG2, hix2, hm2⟩
    have l1 := (hI.out.liv.mod (by decide) hm2).cell hsN
    have l2 := (hI.out.liv.mod (by decide) hm2).free s
    obtain ⟨w5, hw5⟩ : ∃ w5, w5 = w4.setCell ⟨mid, s, none⟩ (.bool false) := ⟨_, rfl⟩
    have hI2 : SI w w5 lo mid gt mid ta N at_ (updF live s false) es2 ix2 := by
      rw [hw5]
      exact hI.out.set hsN (by omega) hlm HLO.out hG2 rfl hm2
    have HI2 : Hid (SI w w5 lo mid gt mid ta N at_ (updF live s false) es2 ix2) := hI2
    obtain ⟨v5, hq5⟩ := hI2.good.hq.qs
    replace hq5 : Hid (QS w5 lo mid lo ta (fun x => x < N) v5 es2 (updF live s false) ix2) := hq5
    have c2 := hI2.ts.cell hsN
    unfold ptrV at c2
    clear hI2 hG2 hm2 HST hI
    go_upto_region 18 with fail
    rw [← hw5]
    clear hw5 l1 l2 c1
    go_wp2_with fail
    refine (index_any hq5.out s hsN).mono ?_
    rintro r w6 ⟨rfl, hw6⟩
    rw [hw6, hix2]
    clear hw6 w6
    go_wp2_with fail
    go_roundw
    case rel => exact ⟨m + 1, _, es2, ix2, by go_num, ⟨_, rfl⟩, by omega, HI2⟩
    case measure => simp [intOf]; omega
end Go.Proofs.Qxb6616716a
