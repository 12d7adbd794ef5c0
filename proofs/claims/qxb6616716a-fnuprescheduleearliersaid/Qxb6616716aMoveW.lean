import Derived.Test.Qxb6616716aLaws
namespace Go.Proofs.Qxb6616716a
open Go.RowKit

def at2 (at_ : Nat → Int) (s : Nat) (d : Int) : Nat → Int := fun x => if x = s then d else at_ x
def moved (s : Nat) (d : Int) (x : Ent) : Ent := if x.seq = s then ⟨d, x.seq⟩ else x

section
variable {w : World} {lo hi bq : Nat} {tb : Nat → Nat} {N : Nat} {at_ : Nat → Int} {es : List Ent} {ix : Nat → Int}

theorem HoleIx.seq {i : Nat} {e e' : Ent} (h : HoleIx es ix i e) (he : e'.seq = e.seq) : HoleIx es ix i e' := fun j hj hne => by rw [he]; exact h j hj hne
theorem earlier_upOk (h : IsHeap es) {i : Nat} (hi' : i < es.length) {d : Int} (hd : d ≤ (E es i).at_) : UpOk es i ⟨d, (E es i).seq⟩ := by
  have hV : ∀ j, E (es.set i ⟨d, (E es i).seq⟩) j = if j = i then ⟨d, (E es i).seq⟩ else E es j := fun j => E_set es i j _ hi'
  have hle : (E es i).lt ⟨d, (E es i).seq⟩ = false := by
    unfold Ent.lt
    split <;> simp <;> omega
  refine ⟨fun j h1 h2 h3 => ?_, fun j h1 h2 h3 h4 => ?_⟩
  · rw [hV, hV, if_neg h3]
    by_cases hp : par j = i
    · rw [if_pos hp]
      have := h j h1 h2
      rw [hp] at this
      exact lt_trans' hle this
    · rw [if_neg hp]
      exact h j h1 h2
  · have hpj : par j < j := by unfold par; omega
    have hpi : par i < i := by unfold par; omega
    rw [hV, hV, if_neg (by omega), if_neg (by omega)]
    have a := h j h1 h2
    rw [h3] at a
    exact lt_trans' (h i h4 hi') a
theorem set_moved (h : IxOk es ix) {i : Nat} (hi' : i < es.length) (d : Int) : es.set i ⟨d, (E es i).seq⟩ = es.map (moved (E es i).seq d) := by
  refine List.ext_getElem (by simp) fun j h1 h2 => ?_
  have hl : j < es.length := by simpa using h2
  rw [List.getElem_map, ← E_get hl]
  by_cases hj : j = i
  · subst hj
    rw [List.getElem_set_self]
    simp [moved]
  · rw [List.getElem_set_ne (fun x => hj x.symm), ← E_get hl]
    unfold moved
    rw [if_neg (h.hole hi' j hl hj).2]
theorem ents_moved (at_ : Nat → Int) (s : Nat) (d : Int) (N : Nat) : (ents at_ N).map (moved s d) = ents (at2 at_ s d) N := by
  unfold ents
  rw [List.map_map]
  refine List.map_congr_left fun x _ => ?_
  simp only [Function.comp, moved, at2]
  split <;> rfl
theorem Good.moved {w' : World} {i : Nat} {d : Int} {v : Value} {r : Ending} (h : Good w lo hi bq tb N at_ (fun _ => true) es ix) (hi' : i < es.length)
    (hp : UpPost w lo hi bq tb (fun x => x < N) v es i ⟨d, (E es i).seq⟩ (fun _ => true) ix r w') :
    r = .returned (.tuple #[]) ∧ Mod lo hi w w' ∧ ∃ es' ix', Good w' lo hi bq tb N (at2 at_ (E es i).seq d) (fun _ => true) es' ix' := by
  obtain ⟨hr, es', ix', h1, h2, h3, h4, h5, h6⟩ := hp
  refine ⟨hr, h6, es', ix', ⟨⟨_, h1⟩, h3, h4⟩, ?_, fun s _ hl => by cases hl⟩
  have h7 := h.perm
  rw [lents_all] at h7 ⊢
  rw [set_moved h.hq.ixok hi'] at h2
  rw [← ents_moved]
  exact h2.trans (h7.map _)
end

set_option maxHeartbeats 8000000 in
set_option maxRecDepth 20000 in
theorem move_any (w : World) (a0 : Option Addr) (N cap0 : Nat) (at_ : Nat → Int) (a1 d : Int) (hv : Vec w w.heap.size (.slice a0 N cap0) N (fun j => .int .i64 (at_ j))) :
    Calls Try.prog 6 #[.slice a0 N cap0, .int .i64 a1, .int .i64 d] w fun e w' => e = .returned (.bool true) ∧ Below w.heap.size w w' := by
  obtain ⟨lo, hlo⟩ : ∃ lo, lo = w.heap.size := ⟨_, rfl⟩
  have HV : Hid (Vec w lo (.slice a0 N cap0) N (fun j => .int .i64 (at_ j))) := by rw [hlo]; exact hv
  have hcp : N ≤ cap0 ∧ cap0 ≤ maxLen := by
    obtain ⟨_, _, h, h1, h2, _⟩ := hv
    simp at h
    omega
  obtain ⟨g1, g2⟩ := hcp
  unfold maxLen at g2
  obtain ⟨i0, hi, hz0, hz1, hz2⟩ := info_parts info2
  have HLO : Hid (lo = w.heap.size) := hlo
  clear hv
  rw [← hlo]
  clear hlo
  go_enter Try.func6, Try.ntmps6
  go_wp2_with fail
  refine (bytes23 w a0 N cap0 a1 d).mono ?_
  rintro r w1 ⟨rfl, hw1⟩
  rw [hw1]
  clear hw1 w1
  have hfin : Hid (Below lo w w) := Below.refl _ _
  by_cases hN : N ≤ 65536
  case neg =>
    by_cases hN2 : N ≤ 1048576
    · rw [decide_eq_true hN2]
      go_wp2_with fail
      go_ret
      exact ⟨rfl, hfin.out⟩
    · rw [decide_eq_false hN2]
      go_wp2_with fail
      go_ret
      exact ⟨rfl, hfin.out⟩
  rw [decide_eq_true (show N ≤ 1048576 by omega)]
  by_cases hk0 : a1 < 0
  case pos =>
    go_wp2_with fail
    go_ret
    exact ⟨rfl, hfin.out⟩
  by_cases hk1 : a1 < N
  case neg =>
    go_wp2_with fail
    go_ret
    exact ⟨rfl, hfin.out⟩
  obtain ⟨k, rfl⟩ : ∃ k : Nat, a1 = k := ⟨a1.toNat, by omega⟩
  have hkN : k < N := by omega
  clear hk0 hk1
  go_wp2_with fail
  refine (newQueue_any w).mono ?_
  rintro r w1 ⟨rfl, hw1⟩
  have HQ1 : Hid (HQ w1 lo w1.heap.size lo (fun _ => 0) (fun x => x < 0) [] (fun _ => true) (fun _ => 0)) := by
    have := newQueue_hq w lo (by rw [HLO.out]; exact Nat.le_refl _)
    rw [← hw1, ← HLO.out] at this
    exact this
  have HB1 : Hid (Below w.heap.size w w1) := by rw [hw1]; exact (Below.refl _ _).alloc (Nat.le_refl _) _
  have HV1 : Hid (Vec w1 lo (.slice a0 N cap0) N (fun j => .int .i64 (at_ j))) := HV.out.later HB1.out
  clear hw1
  rw [← HLO.out]
  go_wp2_with fail
  refine (build_any HQ1.out HV1.out hN).mono ?_
  rintro r w2 ⟨rfl, ta, es, ix, hBI⟩
  have HGA : Hid (Good w2 lo w2.heap.size lo ta N at_ (fun _ => true) es ix) := hBI.good
  have HTS : Hid (Arr w2 31 w1.heap.size N (ptrV ta)) := hBI.ts
  have HV2 : Hid (Vec w2 lo (.slice a0 N cap0) N (fun j => .int .i64 (at_ j))) := hBI.ats
  have HB2 : Hid (Below lo w w2) := by
    have h1 := HB1.out
    rw [← HLO.out] at h1
    exact h1.trans (hBI.mod.below (by have := HB1.out.size; rw [HLO.out]; exact this))
  clear hBI HB1 HV1 HQ1 HV
  obtain ⟨gt, hgt⟩ : ∃ gt, gt = w1.heap.size := ⟨_, rfl⟩
  rw [← hgt] at HTS ⊢
  clear hgt
  have hel : es.length = N := by
    rw [HGA.out.length]
    unfold cnt
    rw [List.filter_eq_self.2 (fun _ _ => rfl)]
    simp
  have hke : k < es.length := by omega
  obtain ⟨v2, hq2⟩ := HGA.out.hq.qs
  obtain ⟨x, hx⟩ : ∃ x, x = E es k := ⟨_, rfl⟩
  have HX : Hid (x = E es k) := hx
  have HE : Hid (Calls Try.prog 22 #[.pointer (some ⟨lo, 0, none⟩), .int .i64 k] w2 fun r w' => r = .returned (.tuple #[.int .i64 x.at_, .int .u64 x.seq, .pointer (some ⟨ta x.seq, 0, none⟩)]) ∧ Below w2.heap.size w2 w') := by
    rw [hx]
    exact entry_any hq2 k hke
  have hmem : Hid (x.seq < N ∧ true = true ∧ x.at_ = at_ x.seq) := by
    rw [hx]
    exact HGA.out.mem.1 (E_mem hke)
  have HKE : Hid (k < es.length) := hke
  clear hx hke hel hq2
  go_wp2_with fail
  refine HE.out.mono ?_
  rintro r w3 ⟨rfl, hb3⟩
  have HB3 : Hid (Below w2.heap.size w2 w3) := hb3
  obtain ⟨m1, _, m3⟩ := hmem.out
  obtain ⟨b2, off2, ho2, hc2⟩ := (HV2.out.later hb3).elem (by omega)
  subst ho2
  have d1 := (HTS.out.mod (lo := 0) (hi := 0) (by decide) (Mod.of_below hb3)).cell m1
  have d2 := hc2 x.seq m1
  rw [← m3] at d2
  unfold ptrV at d1
  have hnp := neq_ptr ⟨ta x.seq, 0, none⟩
  clear hc2 hb3 m3 hmem
  have HFB : Hid (Below lo w w3) := HB2.out.trans (HB3.out.mono (by rw [HLO.out]; exact HB2.out.size))
  by_cases hdx : d ≤ x.at_
  case neg =>
    go_wp2_with fail
    go_ret
    exact ⟨rfl, HFB.out⟩
  go_wp2_with (at_make; refine wpList_make_full _ rfl _ _ 22 rfl w3.heap.size 2 i0 (.int .i64 0) 1 Try.underlying22 hi hz0 hz1 .i64 .i64 _ _ N rfl rfl rfl rfl (by rw [hz2]; omega) (by unfold maxLen; omega) (Nat.le_refl _) ?_; intro w4 hown0 hgrow0; have ha : Hid (Arr w4 2 w3.heap.size N (fun _ => .int .i64 0)) := Arr.made hown0; replace hgrow0 : Hid (Below w3.heap.size w3 w4) := (Below.refl _ _).grown hgrow0 (Nat.le_refl _) (fun k hk => by cases hk); clear hown0)
  obtain ⟨gw, hgw⟩ : ∃ gw, gw = w3.heap.size := ⟨_, rfl⟩
  rw [← hgw] at ha ⊢
  have hsw : w2.heap.size ≤ gw := by rw [hgw]; exact HB3.out.size
  have HB4 : Hid (Below w2.heap.size w2 w4) := HB3.out.trans (hgrow0.out.mono HB3.out.size)
  clear hgw hgrow0 hi hz0 hz1 hz2 d1 d2
  go_loopw [14] (fun i wr => ∃ (m : Nat), i = .int .i64 m ∧ m ≤ N ∧ Hid (Arr wr 2 gw N (fun s => if s < m then .int .i64 (at_ s) else .int .i64 0)) ∧ Hid (Below w2.heap.size w2 wr)) (fun i _ => N - (intOf i).toNat)
  case atStart => exact ⟨0, by go_num, by omega, ha.out.congr (fun s _ => by simp), HB4⟩
  case round =>
    obtain ⟨m, rfl, hm, hA, hB⟩ := hrel
    by_cases hmN : m < N
    case pos =>
      obtain ⟨b', off', hb', hc'⟩ := (HV2.out.later hB.out).elem (by omega)
      simp only [Option.some.injEq, Addr.mk.injEq, and_true] at hb'
      obtain ⟨rfl, rfl⟩ := hb'
      have d2 := hc' m hmN
      have c1 := hA.out.cell hmN
      have f1 := hA.out.free m
      clear hc'
      go_wp2_with fail
      go_roundw
      case rel =>
        refine ⟨m + 1, by go_num, by omega, (hA.out.set hmN _).congr (fun s hs => ?_), hB.out.setCell hsw _⟩
        by_cases hsm : s = m
        · subst hsm; simp
        · simp only [if_neg hsm]
          by_cases h2 : s < m
          · rw [if_pos h2, if_pos (by omega)]
          · rw [if_neg h2, if_neg (by omega)]
      case measure => simp [intOf]; omega
    have hmN2 : N = m := by omega
    subst hmN2
    have c1 := hA.out.cell m1
    have f1 := hA.out.free x.seq
    obtain ⟨w5, hw5⟩ : ∃ w5, w5 = wr.setCell ⟨gw, x.seq, none⟩ (.int .i64 d) := ⟨_, rfl⟩
    have HA5 : Hid (Arr w5 2 gw N (fun s => .int .i64 (at2 at_ x.seq d s))) := by
      rw [hw5]
      refine (hA.out.set m1 _).congr fun s hs => ?_
      unfold at2
      by_cases h : s = x.seq
      · rw [if_pos h, if_pos h]
      · rw [if_neg h, if_neg h, if_pos hs]
    have HB5 : Hid (Below w2.heap.size w2 w5) := by
      rw [hw5]
      exact hB.out.setCell hsw _
    have HG5 : Hid (Good w5 lo w2.heap.size lo ta N at_ (fun _ => true) es ix) := HGA.out.later HB5.out
    have HT5 : Hid (Arr w5 31 gt N (ptrV ta)) := HTS.out.mod (lo := 0) (hi := 0) (by decide) (Mod.of_below HB5.out)
    obtain ⟨v5, hq5⟩ := HG5.out.hq.qs
    have HU : Hid (Calls Try.prog 24 #[.pointer (some ⟨lo, 0, none⟩), .int .i64 k, .int .i64 d, .int .u64 x.seq, .pointer (some ⟨ta x.seq, 0, none⟩)] w5 fun r w' => UpPost w5 lo w2.heap.size lo ta (fun x => x < N) v5 es k ⟨d, x.seq⟩ (fun _ => true) ix r w') := by
      have hxe := HX.out
      refine zzup_any hq5 k HKE.out ⟨d, x.seq⟩ m1 HB5.out.size ?_ ?_
      · exact (HG5.out.hq.ixok.hole HKE.out).seq (by rw [hxe])
      · rw [hxe] at hdx ⊢
        exact earlier_upOk HG5.out.hq.heap HKE.out hdx
    clear hq5 hA hB HTS HGA HB4 HB3 ha
    go_upto_region 21 with fail
    rw [← hw5]
    clear hw5 c1 f1
    go_wp2_with fail
    refine HU.out.mono ?_
    intro r w6 hup
    rw [HX.out] at hup
    obtain ⟨hr, hm6, es6, ix6, hG6⟩ := HG5.out.moved HKE.out hup
    subst hr
    rw [← HX.out] at hG6
    have HG6 : Hid (Good w6 lo w2.heap.size lo ta N (at2 at_ x.seq d) (fun _ => true) es6 ix6) := hG6
    have HT6 : Hid (Arr w6 31 gt N (ptrV ta)) := HT5.out.mod (by decide) hm6
    have HA6 : Hid (Arr w6 2 gw N (fun s => .int .i64 (at2 at_ x.seq d s))) := HA5.out.mod (by decide) hm6
    have HB6 : Hid (Below lo w w6) := (HB2.out.trans (HB5.out.mono (by rw [HLO.out]; exact HB2.out.size))).trans (hm6.below (by rw [HLO.out]; exact Nat.le_trans HB2.out.size HB5.out.size))
    have hs6 : w2.heap.size ≤ w6.heap.size := Nat.le_trans HB5.out.size hm6.size
    clear hup hm6 hG6 HU HG5 HT5 HA5 HB5 hsw
    go_wp2_with fail
    refine (allLive_any w6 hN).mono ?_
    rintro r w7 ⟨rfl, hal, hb7⟩
    have HG7 : Hid (Good w7 lo w2.heap.size lo ta N (at2 at_ x.seq d) (fun _ => true) es6 ix6) := HG6.out.later hb7
    have HW7 : Hid (Vec w7 lo (.slice (some ⟨gw, 0, none⟩) N N) N (fun j => .int .i64 (at2 at_ x.seq d j))) := (HA6.out.mod (lo := 0) (hi := 0) (by decide) (Mod.of_below hb7)).vec (by decide) hN
    have HT7 : Hid (Vec w7 lo (.slice (some ⟨gt, 0, none⟩) N N) N (ptrV ta)) := (HT6.out.mod (lo := 0) (hi := 0) (by decide) (Mod.of_below hb7)).vec (by decide) hN
    have HL7 : Hid (Vec w7 lo (.slice (some ⟨w6.heap.size, 0, none⟩) N N) N (fun _ => .bool true)) := hal.vec (by decide) hN
    have HB7 : Hid (Below lo w w7) := HB6.out.trans (hb7.mono (by rw [HLO.out]; exact HB6.out.size))
    have hs7 : w2.heap.size ≤ w7.heap.size := Nat.le_trans hs6 hb7.size
    clear hal hb7 HG6 HT6 HA6 HB6
    go_wp2_with fail
    refine (holds_any HG7.out HT7.out HW7.out HL7.out hN).mono ?_
    rintro r w8 ⟨rfl, hb8⟩
    have HD : Hid (Calls Try.prog 14 #[.pointer (some ⟨lo, 0, none⟩), .slice (some ⟨gt, 0, none⟩) N N, .slice (some ⟨gw, 0, none⟩) N N, .slice (some ⟨w6.heap.size, 0, none⟩) N N] w8 fun r w' => r = .returned (.bool true) ∧ Mod lo w2.heap.size w8 w') :=
      drain_any (HG7.out.later hb8) (HT7.out.later hb8) (HW7.out.later hb8) (HL7.out.later hb8) hN (Nat.le_trans hs7 hb8.size)
    have HB8 : Hid (Below lo w w8) := HB7.out.trans (hb8.mono (by rw [HLO.out]; exact HB7.out.size))
    clear hb8 HG7 HW7 HT7 HL7
    go_wp2_with fail
    refine HD.out.mono ?_
    rintro r w9 ⟨rfl, hm9⟩
    have HB9 : Hid (Below lo w w9) := HB8.out.trans (hm9.below (by rw [HLO.out]; exact HB8.out.size))
    clear hm9
    go_wp2_with fail
    go_ret
    exact ⟨rfl, HB9.out⟩
end Go.Proofs.Qxb6616716a
