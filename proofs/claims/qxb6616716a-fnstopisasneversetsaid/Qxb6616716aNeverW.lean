import Derived.Test.Qxb6616716aNever
namespace Go.Proofs.Qxb6616716a
open Go.RowKit

set_option maxHeartbeats 8000000 in
set_option maxRecDepth 20000 in
theorem never_any (w : World) (a0 : Option Addr) (N cap0 : Nat) (at_ : Nat → Int) (a1 : Int) (hv : Vec w w.heap.size (.slice a0 N cap0) N (fun j => .int .i64 (at_ j))) :
    Calls Try.prog 4 #[.slice a0 N cap0, .int .i64 a1] w fun e w' => e = .returned (.bool true) ∧ Below w.heap.size w w' := by
  obtain ⟨lo, hlo⟩ : ∃ lo, lo = w.heap.size := ⟨_, rfl⟩
  have HV : Hid (Vec w lo (.slice a0 N cap0) N (fun j => .int .i64 (at_ j))) := by rw [hlo]; exact hv
  have hcp : N ≤ cap0 ∧ cap0 ≤ maxLen := by
    obtain ⟨_, _, h, h1, h2, _⟩ := hv
    simp at h
    omega
  obtain ⟨g1, g2⟩ := hcp
  unfold maxLen at g2
  have HLO : Hid (lo = w.heap.size) := hlo
  clear hv
  rw [← hlo]
  clear hlo
  go_enter Try.func4, Try.ntmps4
  go_wp2_with fail
  refine (bytes15 w a0 N cap0 a1).mono ?_
  rintro r w1 ⟨rfl, hw1⟩
  rw [hw1]
  clear hw1 w1
  have hfin : Hid (Below lo w w) := Below.refl _ _
  by_cases hN : N ≤ 65536
  case neg =>
    by_cases hN2 : N ≤ 1048576
    · rw [decide_eq_true hN2]
      go_wp2_with fail
      go_ret
      exact ⟨rfl, hfin.out⟩
    · rw [decide_eq_false hN2]
      go_wp2_with fail
      go_ret
      exact ⟨rfl, hfin.out⟩
  rw [decide_eq_true (show N ≤ 1048576 by omega)]
  by_cases hk0 : a1 < 0
  case pos =>
    go_wp2_with fail
    go_ret
    exact ⟨rfl, hfin.out⟩
  by_cases hk1 : a1 < N
  case neg =>
    go_wp2_with fail
    go_ret
    exact ⟨rfl, hfin.out⟩
  obtain ⟨k, rfl⟩ : ∃ k : Nat, a1 = k := ⟨a1.toNat, by omega⟩
  have hkN : k < N := by omega
  clear hk0 hk1
  go_wp2_with fail
  refine (newQueue_any w).mono ?_
  rintro r w1 ⟨rfl, hw1⟩
  have HQ1 : Hid (HQ w1 lo w1.heap.size lo (fun _ => 0) (fun x => x < 0) [] (fun _ => true) (fun _ => 0)) := by
    have := newQueue_hq w lo (by rw [HLO.out]; exact Nat.le_refl _)
    rw [← hw1, ← HLO.out] at this
    exact this
  have HB1 : Hid (Below w.heap.size w w1) := by rw [hw1]; exact (Below.refl _ _).alloc (Nat.le_refl _) _
  have HV1 : Hid (Vec w1 lo (.slice a0 N cap0) N (fun j => .int .i64 (at_ j))) := HV.out.later HB1.out
  clear hw1
  rw [← HLO.out]
  go_wp2_with fail
  refine (build_any HQ1.out HV1.out hN).mono ?_
  rintro r w2 ⟨rfl, ta, esA, ixA, hBI⟩
  have HGA : Hid (Good w2 lo w2.heap.size lo ta N at_ (fun _ => true) esA ixA) := hBI.good
  have HTS : Hid (Arr w2 31 w1.heap.size N (ptrV ta)) := hBI.ts
  have HV2 : Hid (Vec w2 lo (.slice a0 N cap0) N (fun j => .int .i64 (at_ j))) := hBI.ats
  have HB2 : Hid (Below lo w w2) := by
    have h1 := HB1.out
    rw [← HLO.out] at h1
    exact h1.trans (hBI.mod.below (by have := HB1.out.size; rw [HLO.out]; exact this))
  clear hBI HB1 HV1 HQ1 HV
  obtain ⟨gt, hgt⟩ : ∃ gt, gt = w1.heap.size := ⟨_, rfl⟩
  rw [← hgt] at HTS ⊢
  clear hgt
  go_wp2_with fail
  refine (newQueue_any w2).mono ?_
  rintro r w3 ⟨rfl, hw3⟩
  have HC0 : Hid (CI w2 w3 k at_ 0 (fun _ => 0) [] (fun _ => 0)) := by rw [hw3]; exact CI.start w2 k at_
  clear hw3
  go_wp2_with fail
  go_loopw [9] (fun i wr => ∃ (m : Nat) (tbB : Nat → Nat) (esB : List Ent) (ixB : Nat → Int), i = .int .i64 m ∧ m ≤ N ∧ Hid (CI w2 wr k at_ m tbB esB ixB)) (fun i _ => N - (intOf i).toNat)
  case atStart => exact ⟨0, _, _, _, by go_num, by omega, HC0⟩
  case round =>
    obtain ⟨m, tbB, esB, ixB, rfl, hm, hC⟩ := hrel
    by_cases hmN : m < N
    case pos =>
      by_cases hmk : m = k
      case pos =>
        subst hmk
        have HCs : Hid (CI w2 wr m at_ (m + 1) tbB esB ixB) := hC.out.skip
        go_wp2_with fail
        go_roundw
        case rel => exact ⟨m + 1, _, _, _, by go_num, by omega, HCs⟩
        case measure => simp [intOf]; omega
      have hmk' : (m : Int) ≠ k := by omega
      obtain ⟨b, off, hao, hcell⟩ := (HV2.out.later hC.out.below).elem (by omega)
      subst hao
      have c0 := hcell m hmN
      clear hcell
      have hel : esB.length < 65536 := by
        rw [hC.out.perm.length_eq, lents_length]
        exact Nat.lt_of_le_of_lt (cnt_le _ _) (by omega)
      have HP : Hid (Calls Try.prog 16 #[.pointer (some ⟨w2.heap.size, 0, none⟩), .int .i64 (at_ m), .int .u64 m] wr fun r w' => r = .returned (.pointer (some ⟨wr.heap.size, 0, none⟩)) ∧ PushPost wr w2.heap.size w2.heap.size tbB (fun x => x < m ∧ x ≠ k) esB (fun _ => true) ⟨at_ m, m⟩ w') :=
        push_any hC.out.hq ⟨at_ m, m⟩ (by simp) hel
      clear hel
      go_wp2_with fail
      refine HP.out.mono ?_
      rintro r w4 ⟨rfl, hp⟩
      have HCs : Hid (∃ es' ix', CI w2 w4 k at_ (m + 1) (updT tbB m wr.heap.size) es' ix') := hC.out.step hmk hp
      clear hp HP hC
      go_wp2_with fail
      go_roundw
      case rel =>
        obtain ⟨es', ix', hN'⟩ := HCs.out
        exact ⟨m + 1, _, es', ix', by go_num, by omega, hN'⟩
      case measure => simp [intOf]; omega
    have hmN2 : N = m := by omega
    subst hmN2
    clear hmN hm
    obtain ⟨mid, hmid⟩ : ∃ mid, mid = w2.heap.size := ⟨_, rfl⟩
    obtain ⟨hiB, hhiB⟩ : ∃ hiB, hiB = wr.heap.size := ⟨_, rfl⟩
    have HGr : Hid (Good wr lo mid lo ta N at_ (fun _ => true) esA ixA) := by
      rw [hmid]; exact HGA.out.later hC.out.below
    have HTr : Hid (Arr wr 31 gt N (ptrV ta)) := HTS.out.of_eq (hC.out.below.block gt HTS.out.lt)
    have HVr : Hid (Vec wr lo (.slice a0 N cap0) N (fun j => .int .i64 (at_ j))) := HV2.out.later hC.out.below
    have hlm : lo ≤ mid := by rw [hmid, HLO.out]; exact HB2.out.size
    have hmh : mid ≤ hiB := by rw [hmid, hhiB]; exact hC.out.below.size
    have HBr : Hid (Below lo w wr) := HB2.out.trans (hC.out.below.mono (by rw [← hmid]; exact hlm))
    have HQB : Hid (HQ wr mid hiB mid tbB (fun x => x < N ∧ x ≠ k) esB (fun _ => true) ixB) := by
      rw [hmid, hhiB]; exact hC.out.hq
    have HPB : Hid (esB.Perm (lents at_ (updF (fun _ => true) k false) N)) := hC.out.perm
    have HHI : Hid (hiB = wr.heap.size) := hhiB
    rw [← hmid]
    clear hmid hhiB hC HC0 HB2 HV2 HTS HGA
    obtain ⟨j, hj, he, hix⟩ := HGr.out.at hkN rfl
    have hel : esA.length ≤ 65536 := by rw [HGr.out.length]; exact Nat.le_trans (cnt_le _ _) hN
    have HST : Hid (Calls Try.prog 11 #[.pointer (some ⟨ta k, 0, none⟩)] wr fun r w' => r = .returned (.tuple #[]) ∧ StopHQ wr lo mid lo ta (fun x => x < N) esA j k (fun _ => true) ixA w') :=
      stop_in HGr.out.hq j hj k hkN (by rw [he]) (by rw [← HHI.out]; exact hmh) hel
    have hc := HTr.out.cell hkN
    unfold ptrV at hc
    go_wp2_with fail
    refine HST.out.mono ?_
    rintro r w5 ⟨rfl, hst⟩
    have hes : (E esA j).seq = k := by rw [he]
    have hgs := HGr.out.stop hj (by rw [hes]; exact hst)
    rw [hes] at hgs
    obtain ⟨es5, ix5, hG5, hix5, hm5⟩ := hgs
    have HG5 : Hid (Good w5 lo mid lo ta N at_ (updF (fun _ => true) k false) es5 ix5) := hG5
    have HT5 : Hid (Arr w5 31 gt N (ptrV ta)) := HTr.out.mod (by decide) hm5
    have HV5 : Hid (Vec w5 lo (.slice a0 N cap0) N (fun j => .int .i64 (at_ j))) := HVr.out.mod hm5
    have HQB5 : Hid (HQ w5 mid hiB mid tbB (fun x => x < N ∧ x ≠ k) esB (fun _ => true) ixB) := HQB.out.mod hm5 (Or.inr (Nat.le_refl _))
    have HB5 : Hid (Below lo w w5) := HBr.out.trans (hm5.below (by rw [HLO.out]; exact HBr.out.size))
    have hsz5 : hiB ≤ w5.heap.size := by rw [HHI.out]; exact hm5.size
    have hpl : Hid (es5.Perm esB) := hG5.perm.trans HPB.out.symm
    have hlA : es5.length + 1 = N := by
      obtain ⟨_, _, _, hp5, _⟩ := hst
      have h1 := hG5.length
      have h2 := HGr.out.length
      have h3 := (stop_perm HGr.out.hq.ixok hj HGr.out.perm).length_eq
      rw [hes, lents_length, List.length_eraseIdx, if_pos hj, ← h1] at h3
      have h4 : cnt (fun _ => true) N = N := by unfold cnt; rw [List.filter_eq_self.2 (fun _ _ => rfl)]; simp
      omega
    obtain ⟨M, hM⟩ : ∃ M, M = es5.length := ⟨_, rfl⟩
    have hM1 : M < N := by omega
    have hM2 : N ≤ M + 1 := by omega
    have HM : Hid (es5.length = M) := hM.symm
    have HMB : Hid (esB.length = M) := by unfold Hid; rw [← hpl.out.length_eq]; exact hM.symm
    obtain ⟨v5, hq5⟩ := hG5.hq.qs
    obtain ⟨vB, hqB⟩ := HQB5.out.qs
    replace hq5 : Hid (QS w5 lo mid lo ta (fun x => x < N) v5 es5 (updF (fun _ => true) k false) ix5) := hq5
    replace hqB : Hid (QS w5 mid hiB mid tbB (fun x => x < N ∧ x ≠ k) vB esB (fun _ => true) ixB) := hqB
    have hc5 := HT5.out.cell hkN
    unfold ptrV at hc5
    clear hst hm5 hG5 hes hc HST hel hix he hj hlA hM HGr HTr HVr HBr HQB HPB HHI
    go_wp2_with fail
    refine (index_any hq5.out k hkN).mono ?_
    rintro r w6 ⟨rfl, hw6⟩
    rw [hw6, hix5]
    clear hw6 w6
    go_wp2_with fail
    refine (hasF_any hq5.out k hkN).mono ?_
    rintro r w6 ⟨rfl, hw6⟩
    rw [hw6, show updF (fun _ => true) k false k = false by simp [updF]]
    clear hw6 w6
    go_wp2_with fail
    refine (len_any hq5.out).mono ?_
    rintro r w6 ⟨rfl, hw6⟩
    rw [hw6, HM.out]
    clear hw6 w6
    have hMb : ((M : Int) != (N : Int) - 1) = false := by simp; omega
    go_wp2_with fail
    refine (len_any hqB.out).mono ?_
    rintro r w6 ⟨rfl, hw6⟩
    rw [hw6, HMB.out]
    clear hw6 w6
    go_wp2_with fail
    have HT0 : Hid (TI w5 w5 lo mid hiB lo mid ta tbB N M (fun x => x < N ∧ x ≠ k) at_ (updF (fun _ => true) k false) k 0 es5 esB ix5 ixB ⟨0, 0⟩) := by
      refine ⟨HG5.out.hq, HQB5.out, hpl.out, HM.out, fun x hx => ?_, fun h => by omega, Mod.refl _ _ _⟩
      have := HG5.out.mem.1 hx
      refine ⟨this.1, fun e => ?_, this.2.2⟩
      have h2 := this.2.1
      rw [e] at h2
      simp [updF] at h2
    clear hq5 hqB hpl HM HMB HQB5 HG5 hix5 hc5 hMb
    go_loopw [10, 11, 12, 13, 14, 15, 16, 17, 18] (fun pa ps i x1 x2 x3 x4 x5 x6 wr => ∃ (j : Nat) (eA eB : List Ent) (iA iB : Nat → Int) (p : Ent), i = .int .i64 j ∧ pa = .int .i64 p.at_ ∧ ps = .int .u64 p.seq ∧ (∃ y1, x1 = y1) ∧ (∃ y2, x2 = y2) ∧ (∃ y3, x3 = y3) ∧ (∃ y4, x4 = y4) ∧ (∃ y5, x5 = y5) ∧ (∃ y6, x6 = y6) ∧ j ≤ M ∧ Hid (TI w5 wr lo mid hiB lo mid ta tbB N M (fun x => x < N ∧ x ≠ k) at_ (updF (fun _ => true) k false) k j eA eB iA iB p)) (fun _ _ i _ _ _ _ _ _ _ => M - (intOf i).toNat)
    case atStart => exact ⟨0, es5, esB, ix5, ixB, ⟨0, 0⟩, by go_num, rfl, by go_num, ⟨_, rfl⟩, ⟨_, rfl⟩, ⟨_, rfl⟩, ⟨_, rfl⟩, ⟨_, rfl⟩, ⟨_, rfl⟩, by omega, HT0⟩
    case round =>
      obtain ⟨j, eA, eB, iA, iB, p, rfl, rfl, rfl, ⟨y1, e1⟩, ⟨y2, e2⟩, ⟨y3, e3⟩, ⟨y4, e4⟩, ⟨y5, e5⟩, ⟨y6, e6⟩, hj, hT⟩ := hrel
      subst e1 e2 e3 e4 e5 e6
      have hlen := hT.out.len
      have hlenB := hT.out.perm.length_eq
      by_cases hlt : j < M
      case neg =>
        have h0 : eA.length = 0 := by omega
        have h0B : eB.length = 0 := by omega
        obtain ⟨vA, hqA⟩ := hT.out.a.qs
        obtain ⟨vB, hqB⟩ := hT.out.b.qs
        replace hqA : Hid (QS wr lo mid lo ta (fun x => x < N) vA eA (updF (fun _ => true) k false) iA) := hqA
        replace hqB : Hid (QS wr mid hiB mid tbB (fun x => x < N ∧ x ≠ k) vB eB (fun _ => true) iB) := hqB
        have HF : Hid (Below lo w wr) := HB5.out.trans (hT.out.mod.below (by rw [HLO.out]; exact HB5.out.size))
        go_wp2_with fail
        refine (len_any hqA.out).mono ?_
        rintro r w6 ⟨rfl, hw6⟩
        rw [hw6, h0]
        clear hw6 w6
        go_wp2_with fail
        refine (len_any hqB.out).mono ?_
        rintro r w6 ⟨rfl, hw6⟩
        rw [hw6, h0B]
        clear hw6 w6
        go_wp2_with fail
        go_ret
        exact ⟨rfl, HF.out⟩
      have h0 : 0 < eA.length := by omega
      have h0B : 0 < eB.length := by omega
      have hre := root_eq hT.out.perm hT.out.a.heap hT.out.b.heap h0
      have HP : Hid (Calls Try.prog 19 #[.pointer (some ⟨lo, 0, none⟩)] wr fun r w' => r = .returned (.tuple #[.int .i64 (E eA 0).at_, .int .u64 (E eA 0).seq, .pointer (some ⟨ta (E eA 0).seq, 0, none⟩)]) ∧ RmHQ wr lo mid lo ta (fun x => x < N) eA 0 (updF (fun _ => true) k false) iA w') :=
        pop_any hT.out.a h0 (Nat.le_trans hmh (Nat.le_trans hsz5 hT.out.mod.size)) (by omega)
      have hmem : Hid ((E eA 0).seq < N ∧ (E eA 0).seq ≠ k ∧ (E eA 0).at_ = at_ (E eA 0).seq) := hT.out.mem _ (E_mem h0)
      have HPV : Hid (0 < j → p.lt (E eA 0) = true) := fun hk => hT.out.prev hk _ (E_mem h0)
      go_wp2_with fail
      refine HP.out.mono ?_
      rintro r w6 ⟨rfl, hpA⟩
      have HPB : Hid (Calls Try.prog 19 #[.pointer (some ⟨mid, 0, none⟩)] w6 fun r w' => r = .returned (.tuple #[.int .i64 (E eA 0).at_, .int .u64 (E eA 0).seq, .pointer (some ⟨tbB (E eA 0).seq, 0, none⟩)]) ∧ RmHQ w6 mid hiB mid tbB (fun x => x < N ∧ x ≠ k) eB 0 (fun _ => true) iB w') := by
        obtain ⟨_, _, _, _, _, _, hmA⟩ := hpA
        have := pop_any (hT.out.b.mod hmA (Or.inr (Nat.le_refl _))) h0B (Nat.le_trans (Nat.le_trans hsz5 hT.out.mod.size) hmA.size) (by omega)
        rw [hre] at this
        exact this
      replace hpA : Hid (RmHQ wr lo mid lo ta (fun x => x < N) eA 0 (updF (fun _ => true) k false) iA w6) := hpA
      go_wp2_with fail
      refine HPB.out.mono ?_
      rintro r w7 ⟨rfl, hpB⟩
      obtain ⟨eA2, eB2, iA2, iB2, hT2⟩ := hT.out.step h0 hlm hmh hpA.out hpB
      have HT2 : Hid (TI w5 w7 lo mid hiB lo mid ta tbB N M (fun x => x < N ∧ x ≠ k) at_ (updF (fun _ => true) k false) k (j + 1) eA2 eB2 iA2 iB2 (E eA 0)) := hT2
      clear hpA hpB HP HPB hT h0 h0B hlen hlenB hre
      obtain ⟨x, hx⟩ : ∃ x, x = E eA 0 := ⟨_, rfl⟩
      rw [← hx] at HPV HT2 hmem ⊢
      clear hx
      obtain ⟨m1, m2, m3⟩ := hmem.out
      have m2' : (x.seq : Int) ≠ k := by omega
      have m2b : ((x.seq : Int) == k) = false := by simp; omega
      obtain ⟨b2, off2, ho2, hc2⟩ := (HV5.out.mod hT2.mod).elem (by omega)
      subst ho2
      have d1 := (HT5.out.mod (by decide) hT2.mod).cell m1
      have d2 := hc2 x.seq m1
      rw [← m3] at d2
      unfold ptrV at d1
      have hnp := neq_ptr ⟨ta x.seq, 0, none⟩
      clear hc2 hT2 m3
      by_cases hj0 : 0 < j
      case neg =>
        obtain rfl : j = 0 := by omega
        go_wp2_with fail
        go_roundw
        case rel => exact ⟨1, _, _, _, _, x, by go_num, rfl, rfl, ⟨_, rfl⟩, ⟨_, rfl⟩, ⟨_, rfl⟩, ⟨_, rfl⟩, ⟨_, rfl⟩, ⟨_, rfl⟩, by omega, HT2⟩
        case measure => simp [intOf]; omega
      have hpl := HPV.out hj0
      go_wp2_with fail
      refine (zzBefore_any w7 p x).mono ?_
      rintro r w8 ⟨rfl, hw8⟩
      rw [hw8, hpl]
      clear hw8 w8
      go_wp2_with fail
      go_roundw
      case rel => exact ⟨j + 1, _, _, _, _, x, by go_num, rfl, rfl, ⟨_, rfl⟩, ⟨_, rfl⟩, ⟨_, rfl⟩, ⟨_, rfl⟩, ⟨_, rfl⟩, ⟨_, rfl⟩, by omega, HT2⟩
      case measure => simp [intOf]; omega
end Go.Proofs.Qxb6616716a
