import Derived.Test.Qxb6616716aGood
namespace Go.Proofs.Qxb6616716a
open Go.RowKit

theorem lt_irrefl (a : Ent) : a.lt a = false := by unfold Ent.lt; simp
theorem IsHeap.root {es : List Ent} (h : IsHeap es) : ∀ j, j < es.length → (E es j).lt (E es 0) = false
  | 0, _ => lt_irrefl _
  | j + 1, hj => by
    have hp : par (j + 1) < j + 1 := by unfold par; omega
    exact lt_trans' (IsHeap.root h (par (j + 1)) (by omega)) (h (j + 1) (by omega) hj)
theorem strict {es : List Ent} {ix : Nat → Int} (h : IsHeap es) (hx : IxOk es ix) {x : Ent} (hm : x ∈ es.eraseIdx 0) : (E es 0).lt x = true := by
  have h1 : x ∈ es := List.mem_of_mem_eraseIdx hm
  have h0 : 0 < es.length := List.length_pos_of_mem h1
  obtain ⟨j, hj, rfl⟩ := mem_E h1
  cases hc : (E es 0).lt (E es j) with
  | true => rfl
  | false => exact absurd (lt_total hc (h.root j hj)).2.symm (hx.out h0 hm)

section
variable {w : World} {lo hi bq : Nat} {tb : Nat → Nat} {N : Nat} {at_ : Nat → Int} {live : Nat → Bool} {es : List Ent} {ix : Nat → Int}

structure DI (w wr : World) (lo hi bq : Nat) (tb : Nat → Nat) (N C : Nat) (at_ : Nat → Int) (live : Nat → Bool) (k : Nat) (es : List Ent) (ix : Nat → Int) (p : Ent) : Prop where
  hq : HQ wr lo hi bq tb (fun x => x < N) es live ix
  len : es.length + k = C
  mem : ∀ x ∈ es, x.seq < N ∧ live x.seq = true ∧ x.at_ = at_ x.seq
  prev : 0 < k → ∀ x ∈ es, p.lt x = true
  mod : Mod lo hi w wr
theorem DI.step {wr w2 : World} {k C : Nat} {p : Ent} (h : DI w wr lo hi bq tb N C at_ live k es ix p) (h0 : 0 < es.length) (hp : RmHQ wr lo hi bq tb (fun x => x < N) es 0 live ix w2) :
    ∃ es' ix', DI w w2 lo hi bq tb N C at_ live (k + 1) es' ix' (E es 0) ∧ ix' (E es 0).seq = -1 := by
  obtain ⟨es', ix', h1, h2, h3, h4, h5⟩ := hp
  refine ⟨es', ix', ⟨h1, ?_, fun x hx => h.mem x (List.mem_of_mem_eraseIdx (h2.subset hx)), fun _ x hx => strict h.hq.heap h.hq.ixok (h2.subset hx), h.mod.trans h5⟩, h3⟩
  have := h.len
  rw [h2.length_eq, List.length_eraseIdx, if_pos h0]
  omega

set_option maxHeartbeats 4000000 in
set_option maxRecDepth 20000 in
theorem drain_any {tsv wv lv : Value} (h : Good w lo hi bq tb N at_ live es ix) (ht : Vec w lo tsv N (ptrV tb)) (hw : Vec w lo wv N (fun j => .int .i64 (at_ j))) (hl : Vec w lo lv N (fun j => .bool (live j))) (hN : N ≤ 65536) (hhi : hi ≤ w.heap.size) :
    Calls Try.prog 14 #[.pointer (some ⟨bq, 0, none⟩), tsv, wv, lv] w fun r w' => r = .returned (.bool true) ∧ Mod lo hi w w' := by
  have HT : Hid (Vec w lo tsv N (ptrV tb)) := ht
  have HW : Hid (Vec w lo wv N (fun j => .int .i64 (at_ j))) := hw
  have HL : Hid (Vec w lo lv N (fun j => .bool (live j))) := hl
  have hle : es.length ≤ 65536 := by rw [h.length]; exact Nat.le_trans (cnt_le _ _) hN
  obtain ⟨o1, cap1, rfl, p1, q1, _⟩ := ht
  obtain ⟨o2, cap2, rfl, p2, q2, _⟩ := hw
  obtain ⟨o3, cap3, rfl, p3, q3, _⟩ := hl
  unfold maxLen at q1 q2 q3
  obtain ⟨v, hq⟩ := h.hq.qs
  have HQv : Hid (QS w lo hi bq tb (fun x => x < N) v es live ix) := hq
  have HD0 : Hid (DI w w lo hi bq tb N es.length at_ live 0 es ix ⟨0, 0⟩) := ⟨h.hq, by omega, fun x hx => h.mem.1 hx, fun h => by omega, Mod.refl _ _ _⟩
  clear h hq
  obtain ⟨C, hC⟩ : ∃ C, C = es.length := ⟨_, rfl⟩
  rw [← hC] at HD0 hle
  go_enter Try.func14, Try.ntmps14
  go_wp2_with fail
  refine (len_any HQv.out).mono ?_
  rintro r w1 ⟨rfl, hw1⟩
  rw [hw1, ← hC]
  clear hw1 w1 hC HQv
  go_wp2_with fail
  go_loopw [10, 11, 12, 13, 14, 15] (fun a s i x1 x2 x3 wr => ∃ (k : Nat) (es' : List Ent) (ix' : Nat → Int) (p : Ent), i = .int .i64 k ∧ a = .int .i64 p.at_ ∧ s = .int .u64 p.seq ∧ (∃ y1, x1 = y1) ∧ (∃ y2, x2 = y2) ∧ (∃ y3, x3 = y3) ∧ k ≤ C ∧ Hid (DI w wr lo hi bq tb N C at_ live k es' ix' p)) (fun _ _ i _ _ _ _ => C - (intOf i).toNat)
  case atStart => exact ⟨0, es, ix, ⟨0, 0⟩, by go_num, rfl, by go_num, ⟨_, rfl⟩, ⟨_, rfl⟩, ⟨_, rfl⟩, by omega, HD0⟩
  case round =>
    obtain ⟨k, es', ix', p, rfl, rfl, rfl, ⟨y1, e1⟩, ⟨y2, e2⟩, ⟨y3, e3⟩, hk, hD⟩ := hrel
    subst e1 e2 e3
    have hlen := hD.out.len
    by_cases hlt : k < C
    case neg =>
      have h0 : es'.length = 0 := by omega
      obtain ⟨v', hq'⟩ := hD.out.hq.qs
      replace hq' : Hid (QS wr lo hi bq tb (fun x => x < N) v' es' live ix') := hq'
      go_wp2_with fail
      refine (len_any hq'.out).mono ?_
      rintro r w1 ⟨rfl, hw1⟩
      rw [hw1, h0]
      clear hw1 w1
      go_wp2_with fail
      go_ret
      exact ⟨rfl, hD.out.mod⟩
    have h0 : 0 < es'.length := by omega
    have HP : Hid (Calls Try.prog 19 #[.pointer (some ⟨bq, 0, none⟩)] wr fun r w' => r = .returned (.tuple #[.int .i64 (E es' 0).at_, .int .u64 (E es' 0).seq, .pointer (some ⟨tb (E es' 0).seq, 0, none⟩)]) ∧ RmHQ wr lo hi bq tb (fun x => x < N) es' 0 live ix' w') :=
      pop_any hD.out.hq h0 (Nat.le_trans hhi hD.out.mod.size) (by omega)
    obtain ⟨m1, m2, m3⟩ := hD.out.mem _ (E_mem h0)
    have HPV : Hid (0 < k → p.lt (E es' 0) = true) := fun hk => hD.out.prev hk _ (E_mem h0)
    go_wp2_with fail
    refine HP.out.mono ?_
    rintro r w2 ⟨rfl, hp⟩
    obtain ⟨es2, ix2, hD2, hix⟩ := hD.out.step h0 hp
    have HD2 : Hid (DI w w2 lo hi bq tb N C at_ live (k + 1) es2 ix2 (E es' 0)) := hD2
    clear hp hD HP h0 hlen
    obtain ⟨x, hx⟩ : ∃ x, x = E es' 0 := ⟨_, rfl⟩
    rw [← hx] at m1 m2 m3 HPV HD2 hix hD2 ⊢
    clear hx
    obtain ⟨b1, off1, ho1, hc1⟩ := (HT.out.mod hD2.mod).elem (by omega)
    obtain ⟨b2, off2, ho2, hc2⟩ := (HW.out.mod hD2.mod).elem (by omega)
    obtain ⟨b3, off3, ho3, hc3⟩ := (HL.out.mod hD2.mod).elem (by omega)
    subst ho1 ho2 ho3
    have d1 := hc1 x.seq m1
    have d2 := hc2 x.seq m1
    have d3 := hc3 x.seq m1
    rw [m2] at d3
    rw [← m3] at d2
    unfold ptrV at d1
    obtain ⟨v2, hq2⟩ := hD2.hq.qs
    replace hq2 : Hid (QS w2 lo hi bq tb (fun x => x < N) v2 es2 live ix2) := hq2
    have hnp := neq_ptr ⟨tb x.seq, 0, none⟩
    clear hc1 hc2 hc3 hD2 m2 m3
    by_cases hk0 : 0 < k
    case neg =>
      obtain rfl : k = 0 := by omega
      go_wp2_with fail
      refine (index_any hq2.out x.seq m1).mono ?_
      rintro r w3 ⟨rfl, hw3⟩
      rw [hw3, hix]
      clear hw3 w3
      go_wp2_with fail
      go_roundw
      case rel => exact ⟨1, es2, ix2, x, by go_num, rfl, rfl, ⟨_, rfl⟩, ⟨_, rfl⟩, ⟨_, rfl⟩, by omega, HD2⟩
      case measure => simp [intOf]; omega
    have hpl := HPV.out hk0
    go_wp2_with fail
    refine (zzBefore_any w2 p x).mono ?_
    rintro r w3 ⟨rfl, hw3⟩
    rw [hw3, hpl]
    clear hw3 w3
    go_wp2_with fail
    refine (index_any hq2.out x.seq m1).mono ?_
    rintro r w3 ⟨rfl, hw3⟩
    rw [hw3, hix]
    clear hw3 w3
    go_wp2_with fail
    go_roundw
    case rel => exact ⟨k + 1, es2, ix2, x, by go_num, rfl, rfl, ⟨_, rfl⟩, ⟨_, rfl⟩, ⟨_, rfl⟩, by omega, HD2⟩
    case measure => simp [intOf]; omega
end
end Go.Proofs.Qxb6616716a
