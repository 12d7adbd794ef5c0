import Derived.Test.Qxb6616716aBuild
import Derived.LaidEqlPtr
namespace Go.Proofs.Qxb6616716a
open Go.RowKit

theorem neq_ptr (a : Addr) (w : World) : Sem.run Try.prog (binOp .neq 31 (.pointer (some a)) (.pointer (some a))) w = .ok (.bool false) w := by
  have hs : (Try.prog.info? 53).isSome = true := by kernel_rfl
  obtain ⟨j, hte⟩ := Option.isSome_iff_exists.1 hs
  have h : ∀ d : Nat, (Op.equalIn (d + 1) 31 (.pointer (some a)) (.pointer (some a))).run Try.prog w = .ok true w := fun d => by
    simp [Op.equalIn, run_underlying Try.underlying31, sizeOf, typeInfo, hte, run_sameAddr_same]
  simp only [binOp]
  simp [Op.equal, Op.maxDepth, h 9999]

def cnt (live : Nat → Bool) (N : Nat) : Nat := ((List.range N).filter live).length
theorem cnt_succ (live : Nat → Bool) (k : Nat) : cnt live (k + 1) = cnt live k + if live k then 1 else 0 := by
  unfold cnt
  rw [List.range_succ, List.filter_append, List.length_append]
  cases h : live k <;> simp [h]
theorem cnt_le (live : Nat → Bool) (k : Nat) : cnt live k ≤ k := by
  unfold cnt
  have := List.length_filter_le live (List.range k)
  simpa using this

def lents (at_ : Nat → Int) (live : Nat → Bool) (N : Nat) : List Ent := (ents at_ N).filter fun e => live e.seq
theorem lents_length (at_ : Nat → Int) (live : Nat → Bool) (N : Nat) : (lents at_ live N).length = cnt live N := by
  unfold lents cnt ents
  rw [List.filter_map, List.length_map]
  rfl
theorem mem_lents {at_ : Nat → Int} {live : Nat → Bool} {N : Nat} {e : Ent} : e ∈ lents at_ live N ↔ e.seq < N ∧ live e.seq = true ∧ e.at_ = at_ e.seq := by
  unfold lents ents
  rw [List.mem_filter, List.mem_map]
  constructor
  · rintro ⟨⟨s, hs, rfl⟩, h2⟩
    exact ⟨List.mem_range.1 hs, h2, rfl⟩
  · rintro ⟨h1, h2, h3⟩
    refine ⟨⟨e.seq, List.mem_range.2 h1, ?_⟩, h2⟩
    rw [← h3]

/-- a queue that holds exactly the live timers -/
structure Good (w : World) (lo hi bq : Nat) (tb : Nat → Nat) (N : Nat) (at_ : Nat → Int) (live : Nat → Bool) (es : List Ent) (ix : Nat → Int) : Prop where
  hq : HQ w lo hi bq tb (fun x => x < N) es live ix
  perm : es.Perm (lents at_ live N)
  dead : ∀ s, s < N → live s = false → ix s = -1

section
variable {w : World} {lo hi bq : Nat} {tb : Nat → Nat} {N : Nat} {at_ : Nat → Int} {live : Nat → Bool} {es : List Ent} {ix : Nat → Int}
theorem Good.mem (h : Good w lo hi bq tb N at_ live es ix) {e : Ent} : e ∈ es ↔ e.seq < N ∧ live e.seq = true ∧ e.at_ = at_ e.seq := by
  rw [h.perm.mem_iff]; exact mem_lents
theorem Good.length (h : Good w lo hi bq tb N at_ live es ix) : es.length = cnt live N := by
  rw [h.perm.length_eq]; exact lents_length _ _ _
theorem Good.at (h : Good w lo hi bq tb N at_ live es ix) {s : Nat} (hs : s < N) (hl : live s = true) : ∃ j, j < es.length ∧ E es j = ⟨at_ s, s⟩ ∧ ix s = j := by
  obtain ⟨j, hj, he⟩ := mem_E (h.mem (e := ⟨at_ s, s⟩) |>.2 ⟨hs, hl, rfl⟩)
  have := h.hq.ixok j hj
  rw [he] at this
  exact ⟨j, hj, he, this⟩
theorem Good.later {w' : World} (h : Good w lo hi bq tb N at_ live es ix) (hb : Below w.heap.size w w') : Good w' lo hi bq tb N at_ live es ix := ⟨h.hq.later hb, h.perm, h.dead⟩

set_option maxHeartbeats 4000000 in
set_option maxRecDepth 20000 in
theorem holds_any {tsv wv lv : Value} (h : Good w lo hi bq tb N at_ live es ix) (ht : Vec w lo tsv N (ptrV tb)) (hw : Vec w lo wv N (fun j => .int .i64 (at_ j))) (hl : Vec w lo lv N (fun j => .bool (live j))) (hN : N ≤ 65536) :
    Calls Try.prog 13 #[.pointer (some ⟨bq, 0, none⟩), tsv, wv, lv] w fun r w' => r = .returned (.bool true) ∧ Below w.heap.size w w' := by
  have HG : Hid (Good w lo hi bq tb N at_ live es ix) := h
  have HT : Hid (Vec w lo tsv N (ptrV tb)) := ht
  have HW : Hid (Vec w lo wv N (fun j => .int .i64 (at_ j))) := hw
  have HL : Hid (Vec w lo lv N (fun j => .bool (live j))) := hl
  have HLN : Hid (es.length = cnt live N) := h.length
  have hle : es.length ≤ 65536 := by rw [h.length]; exact Nat.le_trans (cnt_le _ _) hN
  obtain ⟨o1, cap1, rfl, p1, q1, _⟩ := ht
  obtain ⟨o2, cap2, rfl, p2, q2, _⟩ := hw
  obtain ⟨o3, cap3, rfl, p3, q3, _⟩ := hl
  unfold maxLen at q1 q2 q3
  obtain ⟨v, hq⟩ := h.hq.qs
  have HQv : Hid (QS w lo hi bq tb (fun x => x < N) v es live ix) := hq
  clear h hq
  go_enter Try.func13, Try.ntmps13
  go_wp2_with fail
  refine (len_any HQv.out).mono ?_
  rintro r w1 ⟨rfl, hw1⟩
  rw [hw1]
  clear hw1 w1
  go_wp2_with fail
  go_loopw [9, 11, 12, 13, 14, 15] (fun c i x1 x2 x3 x4 wr => ∃ (k : Nat), i = .int .i64 k ∧ c = .int .i64 (cnt live k) ∧ (∃ y1, x1 = y1) ∧ (∃ y2, x2 = y2) ∧ (∃ y3, x3 = y3) ∧ (∃ y4, x4 = y4) ∧ k ≤ N ∧ Hid (Below w.heap.size w wr)) (fun _ i _ _ _ _ _ => N - (intOf i).toNat)
  case atStart => exact ⟨0, by go_num, by go_num, ⟨_, rfl⟩, ⟨_, rfl⟩, ⟨_, rfl⟩, ⟨_, rfl⟩, by omega, Below.refl _ _⟩
  case round =>
    obtain ⟨k, rfl, rfl, ⟨y1, e1⟩, ⟨y2, e2⟩, ⟨y3, e3⟩, ⟨y4, e4⟩, hk, hB⟩ := hrel
    subst e1 e2 e3 e4
    have hck : cnt live k ≤ 65536 := Nat.le_trans (cnt_le _ _) (by omega)
    by_cases hlt : k < N
    case neg =>
      obtain rfl : k = N := by omega
      rw [← HLN.out]
      go_wp2_with fail
      go_loopw [16, 17, 18, 19, 20, 21, 22] (fun i x1 x2 x3 x4 x5 x6 wr => ∃ (k : Nat), i = .int .i64 k ∧ (∃ y1, x1 = y1) ∧ (∃ y2, x2 = y2) ∧ (∃ y3, x3 = y3) ∧ (∃ y4, x4 = y4) ∧ (∃ y5, x5 = y5) ∧ (∃ y6, x6 = y6) ∧ 1 ≤ k ∧ k ≤ es.length + 1 ∧ Hid (Below w.heap.size w wr)) (fun i _ _ _ _ _ _ _ => es.length + 1 - (intOf i).toNat)
      case atStart => exact ⟨1, by go_num, ⟨_, rfl⟩, ⟨_, rfl⟩, ⟨_, rfl⟩, ⟨_, rfl⟩, ⟨_, rfl⟩, ⟨_, rfl⟩, by omega, by omega, hB⟩
      case round =>
        obtain ⟨j, rfl, ⟨z1, e1⟩, ⟨z2, e2⟩, ⟨z3, e3⟩, ⟨z4, e4⟩, ⟨z5, e5⟩, ⟨z6, e6⟩, hj1, hj2, hB2⟩ := hrel
        subst e1 e2 e3 e4 e5 e6
        by_cases hjl : j < es.length
        case neg =>
          go_wp2_with fail
          go_ret
          exact ⟨rfl, hB2.out⟩
        have hpq := par_quo j hj1
        have hpl : par j < es.length := by unfold par; omega
        have hlt2 := HG.out.hq.heap j hj1 hjl
        have HE1 : Hid (Calls Try.prog 22 #[.pointer (some ⟨bq, 0, none⟩), .int .i64 j] wr fun r w' => r = .returned (.tuple #[.int .i64 (E es j).at_, .int .u64 (E es j).seq, .pointer (some ⟨tb (E es j).seq, 0, none⟩)]) ∧ Below wr.heap.size wr w') := entry_any (HQv.out.later hB2.out) j hjl
        go_wp2_with fail
        refine HE1.out.mono ?_
        rintro r w1 ⟨rfl, hb1⟩
        have HB1 : Hid (Below w.heap.size w w1) := hB2.out.trans (hb1.mono hB2.out.size)
        have HE2 : Hid (Calls Try.prog 22 #[.pointer (some ⟨bq, 0, none⟩), .int .i64 (par j)] w1 fun r w' => r = .returned (.tuple #[.int .i64 (E es (par j)).at_, .int .u64 (E es (par j)).seq, .pointer (some ⟨tb (E es (par j)).seq, 0, none⟩)]) ∧ Below w1.heap.size w1 w') := entry_any (HQv.out.later HB1.out) (par j) hpl
        clear hb1
        go_wp2_with fail
        refine HE2.out.mono ?_
        rintro r w2 ⟨rfl, hb2⟩
        have HB2 : Hid (Below w.heap.size w w2) := HB1.out.trans (hb2.mono HB1.out.size)
        clear hb2
        go_wp2_with fail
        refine (zzBefore_any w2 (E es j) (E es (par j))).mono ?_
        rintro r w3 ⟨rfl, hw3⟩
        rw [hw3, hlt2]
        clear hw3 w3
        go_wp2_with fail
        go_roundw
        case rel => exact ⟨j + 1, by go_num, ⟨_, rfl⟩, ⟨_, rfl⟩, ⟨_, rfl⟩, ⟨_, rfl⟩, ⟨_, rfl⟩, ⟨_, rfl⟩, by omega, by omega, HB2⟩
        case measure => simp [intOf]; omega
    obtain ⟨b1, off1, ho1, hc1⟩ := HT.out.elem (by omega)
    obtain ⟨b2, off2, ho2, hc2⟩ := HW.out.elem (by omega)
    obtain ⟨b3, off3, ho3, hc3⟩ := HL.out.elem (by omega)
    subst ho1 ho2 ho3
    have d1 := (hB.out.cell (World.block_lt_of_cell? w _ (hc1 k hlt))).trans (hc1 k hlt)
    have d2 := (hB.out.cell (World.block_lt_of_cell? w _ (hc2 k hlt))).trans (hc2 k hlt)
    have d3 := (hB.out.cell (World.block_lt_of_cell? w _ (hc3 k hlt))).trans (hc3 k hlt)
    clear hc1 hc2 hc3
    unfold ptrV at d1
    have HGr : Hid (Good wr lo hi bq tb N at_ live es ix) := HG.out.later hB.out
    have HQr : Hid (QS wr lo hi bq tb (fun x => x < N) v es live ix) := HQv.out.later hB.out
    cases hlv : live k
    · have hix := HG.out.dead k hlt hlv
      rw [hlv] at d3
      have HCN : Hid (cnt live (k + 1) = cnt live k) := by unfold Hid; rw [cnt_succ, hlv]; simp
      go_wp2_with fail
      refine (index_any HQr.out k hlt).mono ?_
      rintro r w1 ⟨rfl, hw1⟩
      rw [hw1, hix]
      clear hw1 w1
      go_wp2_with fail
      refine (hasF_any HQr.out k hlt).mono ?_
      rintro r w1 ⟨rfl, hw1⟩
      rw [hw1, hlv]
      clear hw1 w1
      go_wp2_with fail
      go_roundw
      case rel => exact ⟨k + 1, by go_num, by rw [HCN.out], ⟨_, rfl⟩, ⟨_, rfl⟩, ⟨_, rfl⟩, ⟨_, rfl⟩, by omega, hB⟩
      case measure => simp [intOf]; omega
    · obtain ⟨j, hj, he, hix⟩ := HG.out.at hlt hlv
      rw [hlv] at d3
      have HCN : Hid (cnt live (k + 1) = cnt live k + 1) := by unfold Hid; rw [cnt_succ, hlv]; simp
      have HE : Hid (Calls Try.prog 22 #[.pointer (some ⟨bq, 0, none⟩), .int .i64 j] wr fun r w' => r = .returned (.tuple #[.int .i64 (at_ k), .int .u64 k, .pointer (some ⟨tb k, 0, none⟩)]) ∧ Below wr.heap.size wr w') := by
        have := entry_any HQr.out j hj
        rw [he] at this
        exact this
      clear he
      have hnp := neq_ptr ⟨tb k, 0, none⟩
      go_wp2_with fail
      refine (index_any HQr.out k hlt).mono ?_
      rintro r w1 ⟨rfl, hw1⟩
      rw [hw1, hix]
      clear hw1 w1
      go_wp2_with fail
      refine (hasF_any HQr.out k hlt).mono ?_
      rintro r w1 ⟨rfl, hw1⟩
      rw [hw1, hlv]
      clear hw1 w1
      go_wp2_with fail
      refine HE.out.mono ?_
      rintro r w1 ⟨rfl, hb1⟩
      have d11 := (hb1.cell (World.block_lt_of_cell? wr _ d1)).trans d1
      have d21 := (hb1.cell (World.block_lt_of_cell? wr _ d2)).trans d2
      have HB1 : Hid (Below w.heap.size w w1) := hB.out.trans (hb1.mono hB.out.size)
      clear hb1
      go_wp2_with fail
      go_roundw
      case rel => exact ⟨k + 1, by go_num, by rw [HCN.out]; go_num, ⟨_, rfl⟩, ⟨_, rfl⟩, ⟨_, rfl⟩, ⟨_, rfl⟩, by omega, HB1⟩
      case measure => simp [intOf]; omega
end
end Go.Proofs.Qxb6616716a
