import Derived.Test.Qxb6616716aDownLaw
import Derived.Deep.DeepCutAuto
namespace Go.Proofs.Qxb6616716a
open Go.RowKit
section
variable {w : World} {lo hi bq : Nat} {tb : Nat → Nat} {n : Nat → Prop} {es : List Ent} {F : Nat → Bool} {ix : Nat → Int}

set_option maxHeartbeats 4000000 in
set_option maxRecDepth 20000 in
theorem down_any {v : Value} (h : QS w lo hi bq tb n v es F ix) (i : Nat) (hi' : i < es.length) (e : Ent) (hs : n e.seq) (hhi : hi ≤ w.heap.size) (hx : HoleIx es ix i e) (hu : DownOk es i e) (hsm : es.length ≤ 65536) :
    Calls Try.prog 29 #[v, .int .i64 i, entV tb e] w fun r w' => ∃ b, r = .returned (.bool b) ∧ DnPost w lo hi bq tb n v es i e F ix b w' := by
  obtain ⟨w1, hw1⟩ : ∃ w1, w1 = w.alloc (.cells #[.int .i64 e.at_, .int .u64 e.seq, .pointer (some ⟨tb e.seq, 0, none⟩)] 55) := ⟨_, rfl⟩
  have hb1 : Below w.heap.size w w1 := by rw [hw1]; exact (Below.refl _ _).alloc (Nat.le_refl _) _
  have HI : Hid (DnI w w1 lo hi bq tb n v es i e F ix i es ix) := ⟨h.later hb1, rfl, hx, hu, List.Perm.refl _, fun _ _ => rfl, Nat.le_refl _, fun _ => rfl, fun h => by omega, Mod.of_below hb1, by rw [hw1]; exact heap_alloc_new w _⟩
  obtain ⟨g, cap, hv⟩ : ∃ g cap, v = .slice (some ⟨g, 0, none⟩) es.length cap := by
    rcases h.row.2 with ⟨_, h2⟩ | ⟨g, cap, cur, h2, _⟩
    · omega
    · exact ⟨g, cap, h2⟩
  have hcap : es.length ≤ cap ∧ cap ≤ maxLen := by
    rcases h.row.2 with ⟨h', _⟩ | ⟨g', cap', cur, h', _, _, hnc, hm, _⟩
    · rw [hv] at h'; cases h'
    · rw [hv] at h'; simp at h'; omega
  obtain ⟨hcap, hcm⟩ := hcap
  unfold maxLen at hcm
  subst hv
  clear h hx hu hb1
  unfold entV
  go_enter Try.func29, Try.ntmps29
  go_upto_region 1 with fail
  rw [← hw1]
  clear hw1
  go_wp2_with fail
  go_loopw [1, 8] (fun j c wr => ∃ (k : Nat) (es' : List Ent) (ix' : Nat → Int), j = .int .i64 k ∧ (∃ cv, c = cv) ∧ k < es.length ∧ Hid (DnI w wr lo hi bq tb n (.slice (some ⟨g, 0, none⟩) es.length cap) es i e F ix k es' ix')) (fun j _ _ => es.length - (intOf j).toNat)
  case atStart => exact ⟨i, es, ix, rfl, ⟨_, rfl⟩, hi', HI⟩
  case round =>
    obtain ⟨k, es', ix', rfl, ⟨cv, hcv⟩, hk, hI⟩ := hrel
    subst hcv
    have hlen := hI.out.len
    have b0 : wr.cell? ⟨w.heap.size, 0, none⟩ = some (.int .i64 e.at_) := cell_of hI.out.box 0 _ rfl
    have b1 : wr.cell? ⟨w.heap.size, 1, none⟩ = some (.int .u64 e.seq) := cell_of hI.out.box 1 _ rfl
    have b2 : wr.cell? ⟨w.heap.size, 2, none⟩ = some (.pointer (some ⟨tb e.seq, 0, none⟩)) := cell_of hI.out.box 2 _ rfl
    by_cases hc1 : 2 * k + 1 < es.length
    case neg =>
      go_wp2_with fail
      refine (place_any hI.out.qs k (by omega) e hs (Nat.le_trans hhi hI.out.mod.size)).mono ?_
      rintro r w3 ⟨rfl, hq3, hm3⟩
      have HF : Hid (DnPost w lo hi bq tb n (.slice (some ⟨g, 0, none⟩) es.length cap) es i e F ix (decide (i < k)) w3) := hI.out.finish hi' hk (fun j h1 h2 h3 => by unfold par at h3; omega) hq3 hm3
      clear hq3 hm3
      go_wp2_with fail
      go_ret
      exact ⟨_, rfl, HF.out⟩
    have HLN : Hid (es'.length = es.length) := hlen
    clear hlen
    go_upto_region 4 with fail
    obtain ⟨l, HL⟩ : ∃ l, Hid (l = 2 * k + 1) := ⟨_, rfl⟩
    obtain ⟨r, HR⟩ : ∃ r, Hid (r = 2 * k + 2) := ⟨_, rfl⟩
    rw [show (2 * (k : Int) + 1) = (l : Int) by have := HL.out; omega]
    replace hc1 : l < es.length := by have := HL.out; omega
    go_upto_region 5 with fail
    rw [show ((l : Int) + 1) = (r : Int) by have := HL.out; have := HR.out; omega]
    go_cut [34] (fun x wd => ∃ b : Bool, x = .bool b ∧ Hid (b = true → r < es.length ∧ Least es' k r) ∧ Hid (b = false → Least es' k l) ∧ Hid (DnI w wd lo hi bq tb n (.slice (some ⟨g, 0, none⟩) es.length cap) es i e F ix k es' ix'))
    case first =>
      by_cases hr : r < es.length
      case neg =>
        have hd : decide ((r : Int) < es.length) = false := by simp; omega
        have HF : Hid (Least es' k l) := by
          unfold Hid
          have h1 := HLN.out
          have h2 := HL.out
          have h3 := HR.out
          subst h2 h3
          exact Least.alone (by omega) (by omega)
        go_region
        have HI2 := hI.out.later (Below.drew (Below.refl _ _))
        go_wp2_with fail
        go_meet
        case rel => exact ⟨false, rfl, by unfold Hid; simp, fun _ => HF.out, HI2⟩
      have hd : decide ((r : Int) < es.length) = true := by simp; omega
      obtain ⟨h1, x0, x1, x2⟩ := hI.out.qs.entry rfl (j := l) (by have := HLN.out; omega)
      clear h1
      obtain ⟨h1, y0, y1, y2⟩ := hI.out.qs.entry rfl (j := r) (by have := HLN.out; omega)
      clear h1
      go_region_held3 (fun w' => w'.cell? ⟨g, l * 3, none⟩ = some (.int .i64 (E es' l).at_) ∧ w'.cell? ⟨g, l * 3 + 1, none⟩ = some (.int .u64 (E es' l).seq) ∧ w'.cell? ⟨g, l * 3 + 2, none⟩ = some (.pointer (some ⟨tb (E es' l).seq, 0, none⟩)) ∧ w'.cell? ⟨g, r * 3, none⟩ = some (.int .i64 (E es' r).at_) ∧ w'.cell? ⟨g, r * 3 + 1, none⟩ = some (.int .u64 (E es' r).seq) ∧ w'.cell? ⟨g, r * 3 + 2, none⟩ = some (.pointer (some ⟨tb (E es' r).seq, 0, none⟩))) (go_keep)
        (first | (go_at_call 31; refine (before_any _ tb (E es' r) (E es' l)).mono ?_; rintro rr w2 ⟨rfl, hb2'⟩; have hb2 : Below wr.heap.size wr w2 := Below.trans ((Below.refl _ _).drew) (hb2'.mono (by simp)); have u0 := (hb2.cell (World.block_lt_of_cell? wr _ x0)).trans x0; have u1 := (hb2.cell (World.block_lt_of_cell? wr _ x1)).trans x1; have u2 := (hb2.cell (World.block_lt_of_cell? wr _ x2)).trans x2; have v0 := (hb2.cell (World.block_lt_of_cell? wr _ y0)).trans y0; have v1 := (hb2.cell (World.block_lt_of_cell? wr _ y1)).trans y1; have v2 := (hb2.cell (World.block_lt_of_cell? wr _ y2)).trans y2; replace hb2 : Hid (Below wr.heap.size wr w2) := hb2; clear hb2'))
      have HI2 := hI.out.later hb2.out
      go_wp2_with fail
      go_meet
      case rel =>
        refine ⟨_, rfl, fun hb => ⟨hr, ?_⟩, fun hb => ?_, HI2⟩
        · have h1 := HLN.out
          have h2 := HL.out
          have h3 := HR.out
          subst h2 h3
          exact Least.right (by omega) hb
        · have h1 := HLN.out
          have h2 := HL.out
          have h3 := HR.out
          subst h2 h3
          exact Least.left (by omega) hb
    case rest =>
      obtain ⟨b, rfl, hbt, hbf, hI2⟩ := hcut
      clear hI b0 b1 b2
      go_upto_if 34 with fail
      go_cut [8] (fun x wd => ∃ c : Nat, x = .int .i64 c ∧ c < es.length ∧ Hid (Least es' k c) ∧ Hid (DnI w wd lo hi bq tb n (.slice (some ⟨g, 0, none⟩) es.length cap) es i e F ix k es' ix'))
      case first =>
        cases b
        · go_wp2_with fail
          go_meet
          case rel => exact ⟨l, rfl, hc1, hbf.out trivial, hI2⟩
        · go_wp2_with fail
          go_meet
          case rel => exact ⟨r, rfl, (hbt.out trivial).1, (hbt.out trivial).2, hI2⟩
      case rest =>
      obtain ⟨c, rfl, hcl, hLe, hI⟩ := hcut
      clear HL HR hbt hbf hI2 hc1
      have hkc : k < c := by have := hLe.out.up; have := hLe.out.pos; unfold par at *; omega
      have b0 : wc.cell? ⟨w.heap.size, 0, none⟩ = some (.int .i64 e.at_) := cell_of hI.out.box 0 _ rfl
      have b1 : wc.cell? ⟨w.heap.size, 1, none⟩ = some (.int .u64 e.seq) := cell_of hI.out.box 1 _ rfl
      have b2 : wc.cell? ⟨w.heap.size, 2, none⟩ = some (.pointer (some ⟨tb e.seq, 0, none⟩)) := cell_of hI.out.box 2 _ rfl
      obtain ⟨h1, x0, x1, x2⟩ := hI.out.qs.entry rfl (j := c) hLe.out.lt
      clear h1
      have hps : n (E es' c).seq := by
        rw [E_get hLe.out.lt]
        exact hI.out.qs.seqs _ (List.getElem_mem _)
      go_wp2_with fail
      go_region_held3 (fun w' => w'.cell? ⟨w.heap.size, 0, none⟩ = some (.int .i64 e.at_) ∧ w'.cell? ⟨w.heap.size, 1, none⟩ = some (.int .u64 e.seq) ∧ w'.cell? ⟨w.heap.size, 2, none⟩ = some (.pointer (some ⟨tb e.seq, 0, none⟩)) ∧ w'.cell? ⟨g, c * 3, none⟩ = some (.int .i64 (E es' c).at_) ∧ w'.cell? ⟨g, c * 3 + 1, none⟩ = some (.int .u64 (E es' c).seq) ∧ w'.cell? ⟨g, c * 3 + 2, none⟩ = some (.pointer (some ⟨tb (E es' c).seq, 0, none⟩))) (go_keep)
        (first | (go_at_call 31; refine (before_any _ tb (E es' c) e).mono ?_; rintro r w2 ⟨rfl, hb2'⟩; have hb2 : Below wc.heap.size wc w2 := Below.trans ((Below.refl _ _).drew) (hb2'.mono (by simp)); have y0 := (hb2.cell (World.block_lt_of_cell? wc _ x0)).trans x0; have y1 := (hb2.cell (World.block_lt_of_cell? wc _ x1)).trans x1; have y2 := (hb2.cell (World.block_lt_of_cell? wc _ x2)).trans x2; have z0 := (hb2.cell (World.block_lt_of_cell? wc _ b0)).trans b0; have z1 := (hb2.cell (World.block_lt_of_cell? wc _ b1)).trans b1; have z2 := (hb2.cell (World.block_lt_of_cell? wc _ b2)).trans b2; replace hb2 : Hid (Below wc.heap.size wc w2) := hb2; clear hb2'))
      have HI2 : Hid (DnI w w2 lo hi bq tb n (.slice (some ⟨g, 0, none⟩) es.length cap) es i e F ix k es' ix') := hI.out.later hb2.out
      clear hb2 hI x0 x1 x2 b0 b1 b2
      cases hlt : (E es' c).lt e
      · go_wp2_with fail
        refine (place_any HI2.out.qs k (by have := HLN.out; omega) e hs (Nat.le_trans hhi HI2.out.mod.size)).mono ?_
        rintro r w3 ⟨rfl, hq3, hm3⟩
        have HF : Hid (DnPost w lo hi bq tb n (.slice (some ⟨g, 0, none⟩) es.length cap) es i e F ix (decide (i < k)) w3) := HI2.out.finish hi' hk (fun j h1 h2 h3 => lt_trans' hlt (hLe.out.least j h1 h2 h3)) hq3 hm3
        clear hq3 hm3
        go_wp2_with fail
        go_ret
        exact ⟨_, rfl, HF.out⟩
      · go_wp2_with fail
        refine (place_any HI2.out.qs k (by have := HLN.out; omega) (E es' c) hps (Nat.le_trans hhi HI2.out.mod.size)).mono ?_
        rintro r w3 ⟨rfl, hq3, hm3⟩
        have HF : Hid (DnI w w3 lo hi bq tb n (.slice (some ⟨g, 0, none⟩) es.length cap) es i e F ix c (es'.set k (E es' c)) (upd ix' (E es' c).seq k)) := HI2.out.move hk hLe.out hlt hhi hq3 hm3
        clear hq3 hm3
        go_wp2_with fail
        go_roundw
        case rel => exact ⟨c, _, _, rfl, ⟨_, rfl⟩, hcl, HF⟩
        case measure => simp [intOf]; omega
end
end Go.Proofs.Qxb6616716a
