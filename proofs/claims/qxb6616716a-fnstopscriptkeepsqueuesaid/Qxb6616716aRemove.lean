import Derived.Test.Qxb6616716aRmLaw
namespace Go.Proofs.Qxb6616716a
open Go.RowKit
section
variable {w : World} {lo hi bq : Nat} {tb : Nat → Nat} {n : Nat → Prop} {es : List Ent} {F : Nat → Bool} {ix : Nat → Int}

def ebox (tb : Nat → Nat) (e : Ent) : Obj := .cells #[.int .i64 e.at_, .int .u64 e.seq, .pointer (some ⟨tb e.seq, 0, none⟩)] 55 (0, 0)
structure Boxes (w wd : World) (tb : Nat → Nat) (e m : Ent) : Prop where
  res : wd.heap[w.heap.size]? = some (.cells #[.int .i64 0, .int .u64 0, .pointer none] 55 (0, 0))
  out : wd.heap[w.heap.size + 1]? = some (ebox tb e)
  mov : wd.heap[w.heap.size + 2]? = some (ebox tb m)
theorem Boxes.mod {wd w' : World} {e m : Ent} (h : Boxes w wd tb e m) (hm : Mod lo hi wd w') (hh : hi ≤ w.heap.size) : Boxes w w' tb e m := by
  have lt : ∀ k o, wd.heap[k]? = some o → k < wd.heap.size := fun k o h => (Array.getElem?_eq_some_iff.1 h).1
  exact ⟨by rw [hm.block _ (lt _ _ h.res) (Or.inr hh)]; exact h.res, by rw [hm.block _ (lt _ _ h.out) (Or.inr (by omega))]; exact h.out, by rw [hm.block _ (lt _ _ h.mov) (Or.inr (by omega))]; exact h.mov⟩

structure RmI (w wd : World) (lo hi bq : Nat) (tb : Nat → Nat) (n : Nat → Prop) (v : Value) (es : List Ent) (i : Nat) (F : Nat → Bool) (ix : Nat → Int) (es' : List Ent) (ix' : Nat → Int) : Prop where
  mod : Mod lo hi w wd
  qs : QS wd lo hi bq tb n v es' F ix'
  perm : es'.Perm (es.eraseIdx i)
  ixok : IxOk es' ix'
  heap : IsHeap es'
  frame : ∀ s, (∀ x ∈ es, x.seq ≠ s) → ix' s = ix s
def RmPost (w : World) (lo hi bq : Nat) (tb : Nat → Nat) (n : Nat → Prop) (es : List Ent) (i : Nat) (F : Nat → Bool) (ix : Nat → Int) (w' : World) : Prop :=
  ∃ v es' ix', RmI w w' lo hi bq tb n v es i F ix es' ix' ∧ ix' (E es i).seq = -1
structure RmU (w wd : World) (lo hi bq : Nat) (tb : Nat → Nat) (n : Nat → Prop) (v : Value) (es : List Ent) (i last : Nat) (F : Nat → Bool) (ix : Nat → Int) (ix' : Nat → Int) : Prop where
  mod : Mod lo hi w wd
  qs : QS wd lo hi bq tb n v ((es.take last).set i (E es last)) F ix'
  ixok : IxOk ((es.take last).set i (E es last)) ix'
  ok : UpOk (es.take last) i (E es last)
  frame : ∀ s, (∀ x ∈ es, x.seq ≠ s) → ix' s = ix s

theorem RmI.done {wd : World} {v : Value} {i : Nat} {es' : List Ent} {ix' : Nat → Int} (h : RmI w wd lo hi bq tb n v es i F ix es' ix') (hx : IxOk es ix) (hi' : i < es.length) (hs : n (E es i).seq) (hw : hi ≤ w.heap.size) (p q r : Value) :
    RmPost w lo hi bq tb n es i F ix ((((wd.setCell ⟨tb (E es i).seq, 2, none⟩ (.int .i64 (-1))).setCell ⟨w.heap.size, 0, none⟩ p).setCell ⟨w.heap.size, 1, none⟩ q).setCell ⟨w.heap.size, 2, none⟩ r) := by
  obtain ⟨h1, h2⟩ := h.qs.setIx hs (-1)
  have nin : ∀ x ∈ es', x.seq ≠ (E es i).seq := fun x hx' => hx.out hi' (h.perm.subset hx')
  refine ⟨v, es', upd ix' (E es i).seq (-1), ⟨?_, ((h1.setOther (p := ⟨w.heap.size, 0, none⟩) hw p).setOther (p := ⟨w.heap.size, 1, none⟩) hw q).setOther (p := ⟨w.heap.size, 2, none⟩) hw r, h.perm, fun j hj => ?_, h.heap, fun s hs => ?_⟩, by simp [upd]⟩
  · have hm := h.mod.trans h2
    refine ⟨hm.os, hm.tape, hm.output, by simpa using hm.size, fun k hk ho => ?_, fun k hk ho => ?_⟩
    · rw [Below.heap_setCell _ _ _ _ (by simp; omega), Below.heap_setCell _ _ _ _ (by simp; omega), Below.heap_setCell _ _ _ _ (by simp; omega)]
      exact hm.block k hk ho
    · rw [Below.heap_setCell _ _ _ _ (by simp; omega), Below.heap_setCell _ _ _ _ (by simp; omega), Below.heap_setCell _ _ _ _ (by simp; omega)]
      exact hm.kept k hk ho
  · unfold upd
    rw [if_neg (nin _ (E_mem hj))]
    exact h.ixok j hj
  · unfold upd
    rw [if_neg (fun x => hs _ (E_mem hi') x.symm)]
    exact h.frame s hs

theorem RmI.of_down {w4 w5 : World} {v : Value} {i last : Nat} {b : Bool} (h : DnPost w4 lo hi bq tb n v (es.take last) i (E es last) F ix b w5) (hm : Mod lo hi w w4) (hl : es.length = last + 1) (hi' : i < last) :
    ((!b) = true → i < last ∧ ∃ ix', RmU w w5 lo hi bq tb n v es i last F ix ix') ∧ ((!b) = false → ∃ es' ix', RmI w w5 lo hi bq tb n v es i F ix es' ix') := by
  obtain ⟨es5, ix5, q5, p5, i5, fr5, m5, t5, u5⟩ := h
  have fr : ∀ s, (∀ x ∈ es, x.seq ≠ s) → ix5 s = ix s := fun s hs => fr5 s fun x hx => hs x (rm_mem hl hx)
  refine ⟨fun hb => ⟨hi', ix5, ?_⟩, fun hb => ⟨es5, ix5, ?_⟩⟩
  · obtain ⟨rfl, hu⟩ := u5 (by simpa using hb)
    exact ⟨hm.trans m5, q5, i5, hu, fr⟩
  · exact ⟨hm.trans m5, q5, p5.trans (rm_perm hl hi'), i5, t5 (by simpa using hb), fr⟩
theorem RmI.of_up {w4 w5 : World} {v : Value} {i last : Nat} {ix4 : Nat → Int} (h : RmU w w4 lo hi bq tb n v es i last F ix ix4) (hl : es.length = last + 1) (hi' : i < last) {r : Ending}
    (hp : UpPost w4 lo hi bq tb n v ((es.take last).set i (E es last)) i (E es last) F ix4 r w5) : r = .returned (.tuple #[]) ∧ Mod lo hi w4 w5 ∧ ∃ es' ix', RmI w w5 lo hi bq tb n v es i F ix es' ix' := by
  obtain ⟨hr, es5, ix5, q5, p5, i5, hh5, fr5, m5⟩ := hp
  rw [List.set_set] at p5 fr5
  refine ⟨hr, m5, es5, ix5, h.mod.trans m5, q5, p5.trans (rm_perm hl hi'), i5, hh5, fun s hs => ?_⟩
  rw [fr5 s fun x hx => hs x (rm_mem hl hx)]
  exact h.frame s hs
theorem RmU.later {w4 w5 : World} {v : Value} {i last : Nat} {ix4 : Nat → Int} (h : RmU w w4 lo hi bq tb n v es i last F ix ix4) (hb : Below w4.heap.size w4 w5) : RmU w w5 lo hi bq tb n v es i last F ix ix4 :=
  ⟨h.mod.trans (Mod.of_below hb), h.qs.later hb, h.ixok, h.ok, h.frame⟩
theorem RmI.later {w4 w5 : World} {v : Value} {i : Nat} {es' : List Ent} {ix' : Nat → Int} (h : RmI w w4 lo hi bq tb n v es i F ix es' ix') (hb : Below w4.heap.size w4 w5) : RmI w w5 lo hi bq tb n v es i F ix es' ix' :=
  ⟨h.mod.trans (Mod.of_below hb), h.qs.later hb, h.perm, h.ixok, h.heap, h.frame⟩
theorem UpOk.again {i : Nat} {e : Ent} (h : UpOk es i e) : UpOk (es.set i e) i e := by
  refine ⟨fun j h1 h2 h3 => ?_, fun j h1 h2 h3 h4 => ?_⟩
  · rw [List.set_set]; exact h.pair j h1 (by simpa using h2) h3
  · rw [List.set_set]; exact h.grand j h1 (by simpa using h2) h3 h4

set_option maxHeartbeats 4000000 in
set_option maxRecDepth 20000 in
theorem remove_any {v : Value} (h : QS w lo hi bq tb n v es F ix) (i : Nat) (hi' : i < es.length) (hhi : hi ≤ w.heap.size) (hx : IxOk es ix) (hu : IsHeap es) (hsm : es.length ≤ 65536) :
    Calls Try.prog 25 #[.pointer (some ⟨bq, 2, none⟩), .int .i64 i] w fun r w' => r = .returned (entV tb (E es i)) ∧ RmPost w lo hi bq tb n es i F ix w' := by
  obtain ⟨g, cap, hv⟩ : ∃ g cap, v = .slice (some ⟨g, 0, none⟩) es.length cap := by
    rcases h.row.2 with ⟨_, h2⟩ | ⟨g, cap, cur, h2, _⟩
    · omega
    · exact ⟨g, cap, h2⟩
  have hcap : es.length ≤ cap ∧ cap ≤ maxLen := by
    rcases h.row.2 with ⟨h', _⟩ | ⟨g', cap', cur, h', _, _, hnc, hm, _⟩
    · rw [hv] at h'; cases h'
    · rw [hv] at h'; simp at h'; omega
  obtain ⟨hcap, hcm⟩ := hcap
  unfold maxLen at hcm
  subst hv
  obtain ⟨last, hlast⟩ : ∃ last, es.length = last + 1 := ⟨es.length - 1, by omega⟩
  have HLA : Hid (es.length = last + 1) := hlast
  obtain ⟨w1, hw1⟩ : ∃ w1, w1 = w.alloc (.cells #[.int .i64 0, .int .u64 0, .pointer none] 55) := ⟨_, rfl⟩
  have hb1 : Below w.heap.size w w1 := by rw [hw1]; exact (Below.refl _ _).alloc (Nat.le_refl _) _
  have s1 : w1.heap.size = w.heap.size + 1 := by rw [hw1]; simp
  obtain ⟨w2, hw2⟩ : ∃ w2, w2 = w1.alloc (.cells #[.int .i64 (E es i).at_, .int .u64 (E es i).seq, .pointer (some ⟨tb (E es i).seq, 0, none⟩)] 55) := ⟨_, rfl⟩
  have hb2 : Below w1.heap.size w1 w2 := by rw [hw2]; exact (Below.refl _ _).alloc (Nat.le_refl _) _
  have s2 : w2.heap.size = w.heap.size + 2 := by rw [hw2]; simp; omega
  obtain ⟨w3, hw3⟩ : ∃ w3, w3 = w2.alloc (.cells #[.int .i64 (E es last).at_, .int .u64 (E es last).seq, .pointer (some ⟨tb (E es last).seq, 0, none⟩)] 55) := ⟨_, rfl⟩
  have hb3 : Below w2.heap.size w2 w3 := by rw [hw3]; exact (Below.refl _ _).alloc (Nat.le_refl _) _
  have s3 : w3.heap.size = w.heap.size + 3 := by rw [hw3]; simp; omega
  have h1 := h.later hb1
  have h2 := h1.later hb2
  have h3 := h2.later hb3
  have HB : Hid (Boxes w w3 tb (E es i) (E es last)) := by
    refine ⟨?_, ?_, ?_⟩
    · rw [hb3.block _ (by omega), hb2.block _ (by omega), hw1]; exact heap_alloc_new w _
    · rw [hb3.block _ (by omega), hw2, ← s1]; exact heap_alloc_new w1 _
    · rw [hw3, ← s2]; exact heap_alloc_new w2 _
  have q2 : w1.cell? ⟨bq, 2, none⟩ = some (.slice (some ⟨g, 0, none⟩) es.length cap) := cell_of h1.queue 2 _ rfl
  obtain ⟨h', x0, x1, x2⟩ := h1.entry rfl (j := i) hi'
  clear h'
  obtain ⟨h', y0, y1, y2⟩ := h2.entry rfl (j := last) (by omega)
  clear h'
  obtain ⟨h', z0, z1, z2⟩ := h3.entry rfl (j := last) (by omega)
  clear h'
  have hrow := h3.row
  have f0 := hrow.frozenAt (last * 3)
  have f1 := hrow.frozenAt (last * 3 + 1)
  have f2 := hrow.frozenAt (last * 3 + 2)
  have q3 : w3.cell? ⟨bq, 2, none⟩ = some (.slice (some ⟨g, 0, none⟩) es.length cap) := cell_of h3.queue 2 _ rfl
  have qf := free_of h3.queue 2
  have n1 : g ≠ bq := fun e => h.bq_ne_row (by rw [e]; rfl)
  have n2 : bq ≠ g := fun e => n1 e.symm
  have hrm : ∀ s, n s → tb s < hi := fun s hs => (h.tbr s hs).2
  have HTB : Hid (∀ s, n s → tb s < hi) := hrm
  have hsi : n (E es i).seq := h.seqs _ (E_mem hi')
  have hsl : n (E es last).seq := h.seqs _ (E_mem (by omega))
  rw [hlast] at q2 q3 hcap hsm h3
  have HI : Hid (i < es.length) := hi'
  rw [hlast] at hi'
  have HQ : Hid (QS w3 lo hi bq tb n (.slice (some ⟨g, 0, none⟩) (last + 1) cap) es F ix) := h3
  have HM3 : Hid (Mod lo hi w w3) := ((Mod.of_below hb1).trans (Mod.of_below hb2)).trans (Mod.of_below hb3)
  have HX : Hid (IxOk es ix) := hx
  have HH : Hid (IsHeap es) := hu
  clear h hx hu h1 hlast h2 h3 hrow hrm hb1 hb2 hb3
  go_enter Try.func25, Try.ntmps25
  go_upto_region 1 with fail
  rw [← hw1]
  clear hw1
  go_upto_region 4 with fail
  rw [← hw2]
  clear hw2
  go_upto_region 5 with fail
  rw [← hw3]
  clear hw3 x0 x1 x2 y0 y1 y2 q2
  go_upto_region 7 with fail
  obtain ⟨w4, hw4, hq4, hm4⟩ : ∃ w4, w4 = ((((w3.setCell ⟨g, last * 3, none⟩ (.int .i64 0)).setCell ⟨g, last * 3 + 1, none⟩ (.int .u64 0)).setCell ⟨g, last * 3 + 2, none⟩ (.pointer none)).setCell ⟨bq, 2, none⟩ (.slice (some ⟨g, 0, none⟩) last cap)) ∧ QS w4 lo hi bq tb n (.slice (some ⟨g, 0, none⟩) last cap) (es.take last) F ix ∧ Mod lo hi w3 w4 := ⟨_, rfl, HQ.out.shrunk HLA.out _ _ _⟩
  rw [← hw4]
  have HM4 : Hid (Mod lo hi w w4) := HM3.out.trans hm4
  have HB4 : Hid (Boxes w w4 tb (E es i) (E es last)) := HB.out.mod hm4 hhi
  have HQ4 : Hid (QS w4 lo hi bq tb n (.slice (some ⟨g, 0, none⟩) last cap) (es.take last) F ix) := hq4
  clear hw4 HB HQ HM3 hq4 hm4 z0 z1 z2 f0 f1 f2 q3 qf s1 s2 s3
  have HTL : Hid ((es.take last).length = last) := by unfold Hid; have := HLA.out; simp; omega
  go_cut [43] (fun x wd => ∃ b : Bool, x = .bool b ∧ Hid (Boxes w wd tb (E es i) (E es last)) ∧ Hid (b = true → i < last ∧ ∃ ix', RmU w wd lo hi bq tb n (.slice (some ⟨g, 0, none⟩) last cap) es i last F ix ix') ∧ Hid (b = false → ∃ es' ix', RmI w wd lo hi bq tb n (.slice (some ⟨g, 0, none⟩) last cap) es i F ix es' ix'))
  case first =>
    by_cases hil : i = last
    case pos =>
      have hd : ((i : Int) != last) = false := by simp; omega
      have HR : Hid (RmI w w4 lo hi bq tb n (.slice (some ⟨g, 0, none⟩) last cap) es i F ix (es.take last) ix) := by
        subst hil
        exact ⟨HM4.out, HQ4.out, by rw [rm_last HLA.out], HX.out.take, HH.out.take, fun _ _ => rfl⟩
      clear hil
      go_region
      have HR2 := HR.out.later (Below.drew (Below.refl _ _))
      have HB5 := HB4.out.mod (lo := lo) (hi := hi) (Mod.of_below (Below.drew (Below.refl _ _))) hhi
      go_wp2_with fail
      go_meet
      case rel => exact ⟨false, rfl, HB5, fun h => by simp at h, fun _ => ⟨_, _, HR2⟩⟩
    have hil2 : i < last := by omega
    have hd : ((i : Int) != last) = true := by simp; omega
    have c2 : w4.cell? ⟨bq, 2, none⟩ = some (.slice (some ⟨g, 0, none⟩) last cap) := cell_of HQ4.out.queue 2 _ rfl
    have b0 : w4.cell? ⟨w.heap.size + 2, 0, none⟩ = some (.int .i64 (E es last).at_) := cell_of HB4.out.mov 0 _ rfl
    have b1 : w4.cell? ⟨w.heap.size + 2, 1, none⟩ = some (.int .u64 (E es last).seq) := cell_of HB4.out.mov 1 _ rfl
    have b2 : w4.cell? ⟨w.heap.size + 2, 2, none⟩ = some (.pointer (some ⟨tb (E es last).seq, 0, none⟩)) := cell_of HB4.out.mov 2 _ rfl
    have hd4 : Below w4.heap.size w4 w4.drew := Below.drew (Below.refl _ _)
    have hdm : Mod lo hi w4 w4.drew := Mod.of_below hd4
    have HDC : Hid (Calls Try.prog 29 #[.slice (some ⟨g, 0, none⟩) last cap, .int .i64 i, entV tb (E es last)] w4.drew fun r w' => ∃ b, r = .returned (.bool b) ∧ DnPost w4.drew lo hi bq tb n (.slice (some ⟨g, 0, none⟩) last cap) (es.take last) i (E es last) F ix b w') :=
      down_any (HQ4.out.later hd4) i (by rw [HTL.out]; exact hil2) _ hsl (Nat.le_trans hhi (Nat.le_trans HM4.out.size hd4.size)) (HX.out.rm HLA.out) (HH.out.rm HLA.out hil2) (by rw [HTL.out]; omega)
    unfold entV at HDC
    replace hd4 : Hid (Below w4.heap.size w4 w4.drew) := hd4
    replace hdm : Hid (Mod lo hi w4 w4.drew) := hdm
    go_region_held3 (fun w' => w'.cell? ⟨bq, 2, none⟩ = some (.slice (some ⟨g, 0, none⟩) last cap) ∧ w'.cell? ⟨w.heap.size + 2, 0, none⟩ = some (.int .i64 (E es last).at_) ∧ w'.cell? ⟨w.heap.size + 2, 1, none⟩ = some (.int .u64 (E es last).seq) ∧ w'.cell? ⟨w.heap.size + 2, 2, none⟩ = some (.pointer (some ⟨tb (E es last).seq, 0, none⟩))) (go_keep)
      (first | (go_at_call 29; refine HDC.out.mono ?_; rintro rr w5 ⟨b, rfl, hdn⟩; have HAB := RmI.of_down hdn (HM4.out.trans hdm.out) HLA.out hil2; obtain ⟨es5, ix5, q5, p5, i5, fr5, m5, t5, u5⟩ := hdn; have HB5 : Hid (Boxes w w5 tb (E es i) (E es last)) := HB4.out.mod (hdm.out.trans m5) hhi; have HA : Hid ((!b) = true → i < last ∧ ∃ ix', RmU w w5 lo hi bq tb n (.slice (some ⟨g, 0, none⟩) last cap) es i last F ix ix') := HAB.1; have HBB : Hid ((!b) = false → ∃ es' ix', RmI w w5 lo hi bq tb n (.slice (some ⟨g, 0, none⟩) last cap) es i F ix es' ix') := HAB.2; have c25 : w5.cell? ⟨bq, 2, none⟩ = some (.slice (some ⟨g, 0, none⟩) last cap) := cell_of q5.queue 2 _ rfl; have b05 : w5.cell? ⟨w.heap.size + 2, 0, none⟩ = some (.int .i64 (E es last).at_) := cell_of HB5.out.mov 0 _ rfl; have b15 : w5.cell? ⟨w.heap.size + 2, 1, none⟩ = some (.int .u64 (E es last).seq) := cell_of HB5.out.mov 1 _ rfl; have b25 : w5.cell? ⟨w.heap.size + 2, 2, none⟩ = some (.pointer (some ⟨tb (E es last).seq, 0, none⟩)) := cell_of HB5.out.mov 2 _ rfl; clear q5 p5 i5 fr5 m5 t5 u5 HAB ix5 es5))
    go_wp2_with fail
    go_meet
    case rel => exact ⟨_, rfl, HB5, HA, HBB⟩
  case rest =>
    obtain ⟨b, rfl, HB, HA, HBB⟩ := hcut
    clear HB4 HQ4 HM4
    go_upto_if 43 with fail
    go_cut [] (fun wd => Hid (Boxes w wd tb (E es i) (E es last)) ∧ Hid (∃ es' ix', RmI w wd lo hi bq tb n (.slice (some ⟨g, 0, none⟩) last cap) es i F ix es' ix'))
    case first =>
      cases b
      · go_wp2_with fail
        go_meet
        case rel => exact ⟨HB, HBB.out trivial⟩
      · obtain ⟨hil2, ix4, hU⟩ := HA.out rfl
        have HU : Hid (RmU w wc lo hi bq tb n (.slice (some ⟨g, 0, none⟩) last cap) es i last F ix ix4) := hU
        have c2 : wc.cell? ⟨bq, 2, none⟩ = some (.slice (some ⟨g, 0, none⟩) last cap) := cell_of hU.qs.queue 2 _ rfl
        have b0 : wc.cell? ⟨w.heap.size + 2, 0, none⟩ = some (.int .i64 (E es last).at_) := cell_of HB.out.mov 0 _ rfl
        have b1 : wc.cell? ⟨w.heap.size + 2, 1, none⟩ = some (.int .u64 (E es last).seq) := cell_of HB.out.mov 1 _ rfl
        have b2 : wc.cell? ⟨w.heap.size + 2, 2, none⟩ = some (.pointer (some ⟨tb (E es last).seq, 0, none⟩)) := cell_of HB.out.mov 2 _ rfl
        have hd4 : Below wc.heap.size wc wc.drew := Below.drew (Below.refl _ _)
        have HU2 : Hid (RmU w wc.drew lo hi bq tb n (.slice (some ⟨g, 0, none⟩) last cap) es i last F ix ix4) := hU.later hd4
        have hvl : ((es.take last).set i (E es last)).length = last := by rw [List.length_set]; exact HTL.out
        have hEi : E ((es.take last).set i (E es last)) i = E es last := by rw [E_set _ _ _ _ (by rw [HTL.out]; exact hil2), if_pos rfl]
        have HDC : Hid (Calls Try.prog 28 #[.slice (some ⟨g, 0, none⟩) last cap, .int .i64 i, entV tb (E es last)] wc.drew fun r w' => UpPost wc.drew lo hi bq tb n (.slice (some ⟨g, 0, none⟩) last cap) ((es.take last).set i (E es last)) i (E es last) F ix4 r w') :=
          up_any HU2.out.qs i (by rw [hvl]; exact hil2) _ hsl (Nat.le_trans hhi HU2.out.mod.size) (by have := HU2.out.ixok.hole (i := i) (by rw [hvl]; exact hil2); rwa [hEi] at this) HU2.out.ok.again
        unfold entV at HDC
        have hdm : Hid (Mod lo hi wc wc.drew) := Mod.of_below hd4
        clear hd4 hvl hEi hU HA HBB
        go_wp2_with fail
        go_region_held3 (fun w' => w'.cell? ⟨bq, 2, none⟩ = some (.slice (some ⟨g, 0, none⟩) last cap) ∧ w'.cell? ⟨w.heap.size + 2, 0, none⟩ = some (.int .i64 (E es last).at_) ∧ w'.cell? ⟨w.heap.size + 2, 1, none⟩ = some (.int .u64 (E es last).seq) ∧ w'.cell? ⟨w.heap.size + 2, 2, none⟩ = some (.pointer (some ⟨tb (E es last).seq, 0, none⟩))) (go_keep)
          (first | (go_at_call 28; refine HDC.out.mono ?_; rintro rr w5 hup; obtain ⟨rfl, m5, es5, ix5, hI5⟩ := RmI.of_up HU2.out HLA.out hil2 hup; have HB5 : Hid (Boxes w w5 tb (E es i) (E es last)) := HB.out.mod (hdm.out.trans m5) hhi; have HI5 : Hid (∃ es' ix', RmI w w5 lo hi bq tb n (.slice (some ⟨g, 0, none⟩) last cap) es i F ix es' ix') := ⟨_, _, hI5⟩; have c25 : w5.cell? ⟨bq, 2, none⟩ = some (.slice (some ⟨g, 0, none⟩) last cap) := cell_of hI5.qs.queue 2 _ rfl; have b05 : w5.cell? ⟨w.heap.size + 2, 0, none⟩ = some (.int .i64 (E es last).at_) := cell_of HB5.out.mov 0 _ rfl; have b15 : w5.cell? ⟨w.heap.size + 2, 1, none⟩ = some (.int .u64 (E es last).seq) := cell_of HB5.out.mov 1 _ rfl; have b25 : w5.cell? ⟨w.heap.size + 2, 2, none⟩ = some (.pointer (some ⟨tb (E es last).seq, 0, none⟩)) := cell_of HB5.out.mov 2 _ rfl; clear m5 hI5 hup ix5 es5))
        go_wp2_with fail
        go_meet
        case rel => exact ⟨HB5, HI5⟩
    case rest => 
      obtain ⟨HB2, HI2⟩ := hcut
      obtain ⟨es', ix', hI⟩ := HI2.out
      have HIx : Hid (RmI w wc lo hi bq tb n (.slice (some ⟨g, 0, none⟩) last cap) es i F ix es' ix') := hI
      have t2 : wc.cell? ⟨tb (E es i).seq, 2, none⟩ = some (.int .i64 (ix' (E es i).seq)) := cell_of (hI.qs.tim _ hsi) 2 _ rfl
      have tf := free_of (hI.qs.tim _ hsi) 2
      have b0 : wc.cell? ⟨w.heap.size + 1, 0, none⟩ = some (.int .i64 (E es i).at_) := cell_of HB2.out.out 0 _ rfl
      have b1 : wc.cell? ⟨w.heap.size + 1, 1, none⟩ = some (.int .u64 (E es i).seq) := cell_of HB2.out.out 1 _ rfl
      have b2 : wc.cell? ⟨w.heap.size + 1, 2, none⟩ = some (.pointer (some ⟨tb (E es i).seq, 0, none⟩)) := cell_of HB2.out.out 2 _ rfl
      have r0 : wc.cell? ⟨w.heap.size, 0, none⟩ = some (.int .i64 0) := cell_of HB2.out.res 0 _ rfl
      have r1 : wc.cell? ⟨w.heap.size, 1, none⟩ = some (.int .u64 0) := cell_of HB2.out.res 1 _ rfl
      have r2 : wc.cell? ⟨w.heap.size, 2, none⟩ = some (.pointer none) := cell_of HB2.out.res 2 _ rfl
      have rf0 := free_of HB2.out.res 0
      have rf1 := free_of HB2.out.res 1
      have rf2 := free_of HB2.out.res 2
      have tlt : tb (E es i).seq < w.heap.size := Nat.lt_of_lt_of_le (HTB.out _ hsi) hhi
      have k1 : tb (E es i).seq ≠ w.heap.size := by omega
      have k2 : tb (E es i).seq ≠ w.heap.size + 1 := by omega
      have k3 : w.heap.size ≠ tb (E es i).seq := by omega
      have k4 : w.heap.size + 1 ≠ tb (E es i).seq := by omega
      have HF := hI.done HX.out HI.out hsi hhi (.int .i64 (E es i).at_) (.int .u64 (E es i).seq) (.pointer (some ⟨tb (E es i).seq, 0, none⟩))
      replace HF : Hid _ := HF
      clear hI HI2 tlt HA HBB HTB
      go_wp2_with fail
      refine bodyPost_ret (v := .agg #[.int .i64 (E es i).at_, .int .u64 (E es i).seq, .pointer (some ⟨tb (E es i).seq, 0, none⟩)]) ?_ rfl ⟨rfl, HF.out⟩
      simp [results, Try.results25, go_sem, *]
end
end Go.Proofs.Qxb6616716a
