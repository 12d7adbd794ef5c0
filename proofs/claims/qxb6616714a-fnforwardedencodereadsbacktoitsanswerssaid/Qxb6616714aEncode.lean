import Derived.Test.Qxb6616714aPage
import Derived.Test.Qxb6616714aLease
import Derived.Deep.RegionHeld3
namespace Go.Proofs.Qxb6616714a
open Go.RowKit

/-- an answer as it lies in a forwardedMsg (type 110): 'ev' is the page's slice -/
def ansCells (a : Ans) : List Value :=
  [.int .u8 a.code, .bool a.found, .int .u64 a.rev, a.vv, .int .u64 a.prev, a.ev, .bool a.pmore, .int .u64 a.lid, .int .u32 a.ttl, .int .i64 a.rem, a.kv, .bool a.lmore]
structure Ans.okP (w : World) (a : Ans) : Prop where
  code : a.code < 256
  rev : a.rev < 18446744073709551616
  val : Rd w a.vv a.val.length (byteCells a.val)
  prev : a.prev < 18446744073709551616
  ents : Rd w a.ev a.ents.length (a.ents.flatMap entCells)
  each : ∀ e ∈ a.ents, e.ok w
  lid : a.lid < 18446744073709551616
  ttl : a.ttl < 4294967296
  rem1 : -9223372036854775808 ≤ a.rem
  rem2 : a.rem ≤ 9223372036854775807
  keys : Rd w a.kv a.keys.length (a.keys.flatMap keyCells)

theorem Ent.ok.later {w w' : World} {e : Ent} (h : e.ok w) (hb : Below w.heap.size w w') : e.ok w' := ⟨h.1.later hb, h.2⟩
theorem Ans.okP.later {w w' : World} {a : Ans} (h : a.okP w) (hb : Below w.heap.size w w') : a.okP w' :=
  ⟨h.code, h.rev, h.val.later hb, h.prev, h.ents.later hb, fun e he => (h.each e he).later hb, h.lid, h.ttl, h.rem1, h.rem2, h.keys.later hb⟩

def ansW (a : Ans) : Nat := 128 + a.val.length + entsW a.ents + keysW a.keys
def allW : List Ans → Nat
  | [] => 0
  | a :: r => ansW a + allW r
theorem encAns_len (a : Ans) (w : World) (h : ansW a ≤ 137438953472) (hk : a.okP w) : (encAns a).length ≤ ansW a := by
  unfold ansW at *
  have h1 := Lib.uvarint_length64 hk.rev
  have h2 := Lib.uvarint_length64 (x := a.val.length) (by omega)
  have h3 := Lib.uvarint_length64 hk.prev
  have h4 := Lib.uvarint_length64 (x := a.ents.length) (by have := entsW_len a.ents; omega)
  have h5 := ents_len a.ents (by omega) (fun e he => (hk.each e he).2)
  have h6 := Lib.uvarint_length64 hk.lid
  have h7 := Lib.uvarint_length64 (x := a.ttl) (by have := hk.ttl; omega)
  have h8 := Lib.uvarint_length64 (x := msOf a.rem) (msOf_lt _ hk.rem2)
  have h9 := Lib.uvarint_length64 (x := a.keys.length) (by have := keysW_len a.keys; omega)
  have h10 := keys_enc_len a.keys (by omega)
  unfold encAns encRest encPage encLease bytesB flagB
  repeat' split
  all_goals
    simp only [List.length_cons, List.length_append, List.length_nil]
    omega
theorem allW_take (xs : List Ans) : ∀ k, allW (xs.take k) ≤ allW xs := by
  induction xs with
  | nil => intro k; simp
  | cons e r ih =>
    intro k
    cases k with
    | zero => simp [allW]
    | succ k => simp only [List.take_succ_cons, allW]; have := ih k; omega
theorem allW_split (xs : List Ans) : ∀ k (h : k < xs.length), allW (xs.take k) + ansW xs[k] ≤ allW xs := by
  induction xs with
  | nil => intro k h; simp at h
  | cons e r ih =>
    intro k h
    cases k with
    | zero => simp [allW]
    | succ k => simp only [List.take_succ_cons, allW, List.getElem_cons_succ]; have := ih k (by simpa using h); omega
theorem allW_len (xs : List Ans) : xs.length ≤ allW xs := by
  induction xs with
  | nil => simp
  | cons e r ih => simp only [List.length_cons, allW, ansW] at *; omega
theorem all_enc_len (xs : List Ans) (w : World) (h : allW xs ≤ 137438953472) (hk : ∀ a ∈ xs, a.okP w) : (xs.flatMap encAns).length ≤ allW xs := by
  induction xs with
  | nil => simp
  | cons e r ih =>
    simp only [List.flatMap_cons, List.length_append, allW] at *
    have := encAns_len e w (by omega) (hk e (by simp))
    have := ih (by omega) (fun x hx => hk x (by simp [hx]))
    omega

theorem buf_one (w : World) (base : Nat) (b : UInt8) (n : Int) (hn : n = b.toNat) (hB : base ≤ w.heap.size) (H : Nat) (hH : H = w.heap.size) : Buf (w.alloc (.cells #[.int .u8 n] 5)) base (.slice (some ⟨H, 0, none⟩) 1 1) [b] := by
  subst hn
  subst hH
  exact ⟨by simp [byteCells], Or.inr ⟨w.heap.size, 1, _, rfl, hB, heap_new w _, by simp, by unfold maxLen; omega, by simp, by simp [byteCells]⟩⟩

set_option maxHeartbeats 4000000 in
set_option maxRecDepth 20000 in
theorem encode_any (w : World) (mv : Value) (xs : List Ans) (hp : Rd w mv xs.length (xs.flatMap ansCells)) (he : ∀ a ∈ xs, a.okP w) (hl : allW xs + 128 ≤ 137438953472) :
    Calls Try.prog 56 #[.agg #[mv]] w fun e w' => ∃ v', e = .returned v' ∧ Buf w' w.heap.size v' (encAll xs) ∧ Below w.heap.size w w' := by
  have hbx : Below w.heap.size w ((w.alloc (.cells #[mv] 95)).alloc (.cells #[.int .u8 24] 5)) := ((Below.refl _ _).alloc (Nat.le_refl _) _).alloc (by simp) _
  have s0 : St w w (.slice (some ⟨w.heap.size + 1, 0, none⟩) 1 1) w.heap.size 95 #[mv] ((w.alloc (.cells #[mv] 95)).alloc (.cells #[.int .u8 24] 5)) (.slice (some ⟨w.heap.size + 1, 0, none⟩) 1 1) [24] :=
    ⟨buf_one _ _ 24 24 rfl (by simp) _ (by simp), App.of_below _ hbx, by
      show ((w.heap.push _).push _)[w.heap.size]? = _
      rw [Array.getElem?_push, if_neg (by simp)]
      simp, hbx⟩
  clear hbx
  have HP : Hid (Rd w mv xs.length (xs.flatMap ansCells)) := hp
  have HE : Hid (∀ a ∈ xs, a.okP w) := he
  have hlen := allW_len xs
  have hu := Lib.uvarint_length64 (x := xs.length) (by omega)
  clear he
  obtain ⟨ao, cap, rfl, g1, g2, g3, g4⟩ := hp
  clear g3 g4
  unfold maxLen at g2
  go_enter Try.func56, Try.ntmps56
  go_wp2_with fail
  refine (uvarint_any w.heap.size _ _ xs.length _ s0.buf s0.size (by simp) (by omega)).mono ?_
  rintro e w1 ⟨v1, rfl, hb1, ha1⟩
  have s1 := s0.step (by decide) hb1 ha1
  have c1 := s1.cell 0 _ rfl
  clear s0 hb1 ha1
  go_wp2_with fail
  clear c1
  go_loopw [3, 15] (fun b i wr => ∃ k : Nat, k ≤ xs.length ∧ i = .int .i64 k ∧ Hid (Buf wr w.heap.size b ([24] ++ Lib.uvarint xs.length ++ (xs.take k).flatMap encAns)) ∧ Hid (Below w.heap.size w wr)) (fun _ i _ => xs.length - (intOf i).toNat)
  case atStart => exact ⟨0, by omega, rfl, by simpa [Hid] using s1.buf, s1.old⟩
  case round =>
    obtain ⟨k, hk, rfl, hbk, hok⟩ := hrel
    clear s1
    by_cases hlt : k < xs.length
    · obtain ⟨b, off, cap', hv, q1, q2, hcell⟩ := HP.out.elem (f := ansCells) (size := 12) (fun _ => rfl) (by omega) (by omega)
      simp only [Value.slice.injEq, true_and] at hv
      obtain ⟨rfl, rfl⟩ := hv
      have hc := fun j u h => (hok.out.cell (World.block_lt_of_cell? w _ (hcell k hlt j u h))).trans (hcell k hlt j u h)
      have x0 : wr.cell? ⟨b, off + k * 12, none⟩ = some (.int .u8 xs[k].code) := hc 0 _ rfl
      have x1 : wr.cell? ⟨b, off + k * 12 + 1, none⟩ = some (.bool xs[k].found) := hc 1 _ rfl
      have x2 : wr.cell? ⟨b, off + k * 12 + 2, none⟩ = some (.int .u64 xs[k].rev) := hc 2 _ rfl
      have x3 : wr.cell? ⟨b, off + k * 12 + 3, none⟩ = some xs[k].vv := hc 3 _ rfl
      have x4 : wr.cell? ⟨b, off + k * 12 + 4, none⟩ = some (.int .u64 xs[k].prev) := hc 4 _ rfl
      have x5 : wr.cell? ⟨b, off + k * 12 + 5, none⟩ = some xs[k].ev := hc 5 _ rfl
      have x6 : wr.cell? ⟨b, off + k * 12 + 6, none⟩ = some (.bool xs[k].pmore) := hc 6 _ rfl
      have x7 : wr.cell? ⟨b, off + k * 12 + 7, none⟩ = some (.int .u64 xs[k].lid) := hc 7 _ rfl
      have x8 : wr.cell? ⟨b, off + k * 12 + 8, none⟩ = some (.int .u32 xs[k].ttl) := hc 8 _ rfl
      have x9 : wr.cell? ⟨b, off + k * 12 + 9, none⟩ = some (.int .i64 xs[k].rem) := hc 9 _ rfl
      have x10 : wr.cell? ⟨b, off + k * 12 + 10, none⟩ = some xs[k].kv := hc 10 _ rfl
      have x11 : wr.cell? ⟨b, off + k * 12 + 11, none⟩ = some (.bool xs[k].lmore) := hc 11 _ rfl
      clear hc hcell
      have hka := HE.out xs[k] (List.getElem_mem hlt)
      have hW := allW_split xs k hlt
      have hT := all_enc_len (xs.take k) w (by have := allW_take xs k; omega) (fun a ha => HE.out a (List.mem_of_mem_take ha))
      have hsn : Hid ((xs.take (k + 1)).flatMap encAns = (xs.take k).flatMap encAns ++ encAns xs[k]) := flat_take encAns xs k hlt
      generalize xs[k] = a at x0 x1 x2 x3 x4 x5 x6 x7 x8 x9 x10 x11 hka hW hsn
      obtain ⟨ao3, cap3, hv3, -⟩ := hka.val
      obtain ⟨ao5, cap5, hv5, -⟩ := hka.ents
      obtain ⟨ao10, cap10, hv10, -⟩ := hka.keys
      rw [hv3] at x3
      rw [hv5] at x5
      rw [hv10] at x10
      have hcode := hka.code
      generalize hLk : [24] ++ Lib.uvarint xs.length ++ (xs.take k).flatMap encAns = lk at hbk
      have hlk : lk.length ≤ 11 + allW (xs.take k) := by rw [← hLk]; simp only [List.length_append, List.length_cons, List.length_nil]; omega
      have HLk : Hid ([24] ++ Lib.uvarint xs.length ++ (xs.take k).flatMap encAns = lk) := hLk
      have H3 : Hid (a.vv = .slice ao3 a.val.length cap3) := hv3
      have H5 : Hid (a.ev = .slice ao5 a.ents.length cap5) := hv5
      have H10 : Hid (a.kv = .slice ao10 a.keys.length cap10) := hv10
      clear hLk hT hv3 hv5 hv10
      simp only [ansW] at hW
      have s2 := St.start hbk.out hok.out ((Below.refl _ wr).alloc (Nat.le_refl _) (.cells #[.int .u8 a.code, .bool a.found, .int .u64 a.rev, .slice ao3 a.val.length cap3, .int .u64 a.prev, .slice ao5 a.ents.length cap5, .bool a.pmore, .int .u64 a.lid, .int .u32 a.ttl, .int .i64 a.rem, .slice ao10 a.keys.length cap10, .bool a.lmore] 110)) (heap_new wr _)
      have hcases : a.code ≤ 0 ∨ (2 ≤ a.code ∧ a.code ≤ 2) ∨ (4 ≤ a.code ∧ a.code ≤ 4) ∨ (6 ≤ a.code ∧ a.code ≤ 6) ∨ (5 ≤ a.code ∧ a.code ≤ 5) ∨ (7 ≤ a.code ∧ a.code ≤ 7) ∨ (1 ≤ a.code ∧ a.code ≤ 1) ∨ (3 ≤ a.code ∧ a.code ≤ 3) ∨ 8 ≤ a.code := by omega
      rcases hcases with hc | ⟨hc, hc'⟩ | ⟨hc, hc'⟩ | ⟨hc, hc'⟩ | ⟨hc, hc'⟩ | ⟨hc, hc'⟩ | ⟨hc, hc'⟩ | ⟨hc, hc'⟩ | hc
      · -- 0: done
        have e0 : Hid (a.code = 0) := show a.code = 0 by omega
        go_wp2_with (at_builtin; refine wpList_byte rfl _ _ rfl (wr.alloc (.cells #[.int .u8 a.code, .bool a.found, .int .u64 a.rev, .slice ao3 a.val.length cap3, .int .u64 a.prev, .slice ao5 a.ents.length cap5, .bool a.pmore, .int .u64 a.lid, .int .u32 a.ttl, .int .i64 a.rem, .slice ao10 a.keys.length cap10, .bool a.lmore] 110)) w.heap.size _ lk s2.buf s2.size (by omega) _ a.code.toUInt8 (by simp; omega) (wr.heap.size + 1) (by simp) rfl rfl ?_; intro v3 w3 hb3 ha3; have s3 := s2.step (by decide) hb3 ha3; have c3 := s3.cell 0 _ rfl; have c31 := s3.cell 1 _ rfl; clear s2 hb3 ha3 x0 x1 x2 x3 x4 x5 x6 x7 x8 x9 x10 x11)
        refine (flag_any w.heap.size v3 _ a.found _ s3.buf s3.size (by simp; omega)).mono ?_
        rintro e w4 ⟨v4, rfl, hb4, ha4⟩
        have s4 := s3.step (by decide) hb4 ha4
        have c4 := s4.cell 2 _ rfl
        clear s3 hb4 ha4 c3 c31
        go_wp2_with fail
        have hu1 := Lib.uvarint_length64 hka.rev
        refine (uvarint_any w.heap.size v4 _ a.rev _ s4.buf s4.size (by simp; omega) hka.rev).mono ?_
        rintro e w5 ⟨v5, rfl, hb5, ha5⟩
        have s5 := s4.step (by decide) hb5 ha5
        have c5 := s5.cell 3 _ rfl
        clear s4 hb5 ha5 c4
        go_wp2_with fail
        have hval := hka.val
        rw [H3.out] at hval
        refine (bytes_any w.heap.size v5 _ _ a.val _ s5.buf s5.size (s5.rd hval) (s5.apart hval) (by simp; omega)).mono ?_
        rintro e w6 ⟨v6, rfl, hb6, ha6⟩
        have s6 := s5.step (by decide) hb6 ha6
        clear s5 hb6 ha6 c5 hval
        go_wp2_with fail
        go_roundw
        case rel =>
          refine ⟨k + 1, by omega, by go_num, ?_, s6.old⟩
          unfold Hid
          rw [hsn.out, ← List.append_assoc, HLk.out]
          simpa [encAns, encRest, e0.out, bytesB, flagB] using s6.buf
        case measure => simp [intOf]; omega
      · -- 2: not done
        have e2 : Hid (a.code = 2) := show a.code = 2 by omega
        go_wp2_with (at_builtin; refine wpList_byte rfl _ _ rfl (wr.alloc (.cells #[.int .u8 a.code, .bool a.found, .int .u64 a.rev, .slice ao3 a.val.length cap3, .int .u64 a.prev, .slice ao5 a.ents.length cap5, .bool a.pmore, .int .u64 a.lid, .int .u32 a.ttl, .int .i64 a.rem, .slice ao10 a.keys.length cap10, .bool a.lmore] 110)) w.heap.size _ lk s2.buf s2.size (by omega) _ a.code.toUInt8 (by simp; omega) (wr.heap.size + 1) (by simp) rfl rfl ?_; intro v3 w3 hb3 ha3; have s3 := s2.step (by decide) hb3 ha3; have c3 := s3.cell 0 _ rfl; have c33 := s3.cell 3 _ rfl; clear s2 hb3 ha3 x0 x1 x2 x3 x4 x5 x6 x7 x8 x9 x10 x11)
        have hval := hka.val
        rw [H3.out] at hval
        refine (bytes_any w.heap.size v3 _ _ a.val _ s3.buf s3.size (s3.rd hval) (s3.apart hval) (by simp; omega)).mono ?_
        rintro e w6 ⟨v6, rfl, hb6, ha6⟩
        have s6 := s3.step (by decide) hb6 ha6
        clear s3 hb6 ha6 c3 c33 hval
        go_wp2_with fail
        go_roundw
        case rel =>
          refine ⟨k + 1, by omega, by go_num, ?_, s6.old⟩
          unfold Hid
          rw [hsn.out, ← List.append_assoc, HLk.out]
          simpa [encAns, encRest, e2.out, bytesB] using s6.buf
        case measure => simp [intOf]; omega
      · -- 4
        have e4 : Hid (a.code = 4) := show a.code = 4 by omega
        go_wp2_with (at_builtin; refine wpList_byte rfl _ _ rfl (wr.alloc (.cells #[.int .u8 a.code, .bool a.found, .int .u64 a.rev, .slice ao3 a.val.length cap3, .int .u64 a.prev, .slice ao5 a.ents.length cap5, .bool a.pmore, .int .u64 a.lid, .int .u32 a.ttl, .int .i64 a.rem, .slice ao10 a.keys.length cap10, .bool a.lmore] 110)) w.heap.size _ lk s2.buf s2.size (by omega) _ a.code.toUInt8 (by simp; omega) (wr.heap.size + 1) (by simp) rfl rfl ?_; intro v3 w3 hb3 ha3; have s3 := s2.step (by decide) hb3 ha3; have c3 := s3.cell 0 _ rfl; have c32 := s3.cell 2 _ rfl; clear s2 hb3 ha3 x0 x1 x2 x3 x4 x5 x6 x7 x8 x9 x10 x11)
        refine (uvarint_any w.heap.size v3 _ a.rev _ s3.buf s3.size (by simp; omega) hka.rev).mono ?_
        rintro e w6 ⟨v6, rfl, hb6, ha6⟩
        have s6 := s3.step (by decide) hb6 ha6
        clear s3 hb6 ha6 c3 c32
        go_wp2_with fail
        go_roundw
        case rel =>
          refine ⟨k + 1, by omega, by go_num, ?_, s6.old⟩
          unfold Hid
          rw [hsn.out, ← List.append_assoc, HLk.out]
          simpa [encAns, encRest, e4.out] using s6.buf
        case measure => simp [intOf]; omega
      · -- 6
        have e4 : Hid (a.code = 6) := show a.code = 6 by omega
        go_wp2_with (at_builtin; refine wpList_byte rfl _ _ rfl (wr.alloc (.cells #[.int .u8 a.code, .bool a.found, .int .u64 a.rev, .slice ao3 a.val.length cap3, .int .u64 a.prev, .slice ao5 a.ents.length cap5, .bool a.pmore, .int .u64 a.lid, .int .u32 a.ttl, .int .i64 a.rem, .slice ao10 a.keys.length cap10, .bool a.lmore] 110)) w.heap.size _ lk s2.buf s2.size (by omega) _ a.code.toUInt8 (by simp; omega) (wr.heap.size + 1) (by simp) rfl rfl ?_; intro v3 w3 hb3 ha3; have s3 := s2.step (by decide) hb3 ha3; have c3 := s3.cell 0 _ rfl; have c32 := s3.cell 2 _ rfl; clear s2 hb3 ha3 x0 x1 x2 x3 x4 x5 x6 x7 x8 x9 x10 x11)
        refine (uvarint_any w.heap.size v3 _ a.rev _ s3.buf s3.size (by simp; omega) hka.rev).mono ?_
        rintro e w6 ⟨v6, rfl, hb6, ha6⟩
        have s6 := s3.step (by decide) hb6 ha6
        clear s3 hb6 ha6 c3 c32
        go_wp2_with fail
        go_roundw
        case rel =>
          refine ⟨k + 1, by omega, by go_num, ?_, s6.old⟩
          unfold Hid
          rw [hsn.out, ← List.append_assoc, HLk.out]
          simpa [encAns, encRest, e4.out] using s6.buf
        case measure => simp [intOf]; omega
      · -- 5: listed
        have e5 : Hid (a.code = 5) := show a.code = 5 by omega
        go_wp2_with (at_builtin; refine wpList_byte rfl _ _ rfl (wr.alloc (.cells #[.int .u8 a.code, .bool a.found, .int .u64 a.rev, .slice ao3 a.val.length cap3, .int .u64 a.prev, .slice ao5 a.ents.length cap5, .bool a.pmore, .int .u64 a.lid, .int .u32 a.ttl, .int .i64 a.rem, .slice ao10 a.keys.length cap10, .bool a.lmore] 110)) w.heap.size _ lk s2.buf s2.size (by omega) _ a.code.toUInt8 (by simp; omega) (wr.heap.size + 1) (by simp) rfl rfl ?_; intro v3 w3 hb3 ha3; have s3 := s2.step (by decide) hb3 ha3; have c3 := s3.cell 0 _ rfl; have c34 := s3.cell 4 _ rfl; have c35 := s3.cell 5 _ rfl; have c36 := s3.cell 6 _ rfl; clear s2 hb3 ha3 x0 x1 x2 x3 x4 x5 x6 x7 x8 x9 x10 x11)
        have hents := hka.ents
        rw [H5.out] at hents
        refine (page_any w v3 _ a.prev _ a.pmore a.ents _ s3.buf s3.old hents hka.each hka.prev (by simp; omega)).mono ?_
        rintro e w6 ⟨v6, rfl, hb6, ha6⟩
        have s6 := s3.step (by decide) hb6 ha6
        clear s3 hb6 ha6 c3 c34 c35 c36 hents
        go_wp2_with fail
        go_roundw
        case rel =>
          refine ⟨k + 1, by omega, by go_num, ?_, s6.old⟩
          unfold Hid
          rw [hsn.out, ← List.append_assoc, HLk.out]
          simpa [encAns, encRest, e5.out] using s6.buf
        case measure => simp [intOf]; omega
      · -- 7: lease
        have e7 : Hid (a.code = 7) := show a.code = 7 by omega
        go_wp2_with (at_builtin; refine wpList_byte rfl _ _ rfl (wr.alloc (.cells #[.int .u8 a.code, .bool a.found, .int .u64 a.rev, .slice ao3 a.val.length cap3, .int .u64 a.prev, .slice ao5 a.ents.length cap5, .bool a.pmore, .int .u64 a.lid, .int .u32 a.ttl, .int .i64 a.rem, .slice ao10 a.keys.length cap10, .bool a.lmore] 110)) w.heap.size _ lk s2.buf s2.size (by omega) _ a.code.toUInt8 (by simp; omega) (wr.heap.size + 1) (by simp) rfl rfl ?_; intro v3 w3 hb3 ha3; have s3 := s2.step (by decide) hb3 ha3; have c3 := s3.cell 0 _ rfl; have c32 := s3.cell 2 _ rfl; have c37 := s3.cell 7 _ rfl; have c38 := s3.cell 8 _ rfl; have c39 := s3.cell 9 _ rfl; have c310 := s3.cell 10 _ rfl; have c311 := s3.cell 11 _ rfl; clear s2 hb3 ha3 x0 x1 x2 x3 x4 x5 x6 x7 x8 x9 x10 x11)
        have s3d := s3.drew
        have hkeys := hka.keys
        rw [H10.out] at hkeys
        have HK : Hid (Rd w (.slice ao10 a.keys.length cap10) a.keys.length (a.keys.flatMap keyCells)) := hkeys
        have hu1 := Lib.uvarint_length64 hka.rev
        clear hkeys
        go_region_held3 (fun w' => w'.cell? ⟨wr.heap.size, 2, none⟩ = some (.int .u64 a.rev) ∧ w'.cell? ⟨wr.heap.size, 7, none⟩ = some (.int .u64 a.lid) ∧ w'.cell? ⟨wr.heap.size, 8, none⟩ = some (.int .u32 a.ttl) ∧ w'.cell? ⟨wr.heap.size, 9, none⟩ = some (.int .i64 a.rem) ∧ w'.cell? ⟨wr.heap.size, 10, none⟩ = some (.slice ao10 a.keys.length cap10) ∧ w'.cell? ⟨wr.heap.size, 11, none⟩ = some (.bool a.lmore)) (first | exact ⟨s6.cell 2 _ rfl, s6.cell 7 _ rfl, s6.cell 8 _ rfl, s6.cell 9 _ rfl, s6.cell 10 _ rfl, s6.cell 11 _ rfl⟩ | exact ⟨s4.cell 2 _ rfl, s4.cell 7 _ rfl, s4.cell 8 _ rfl, s4.cell 9 _ rfl, s4.cell 10 _ rfl, s4.cell 11 _ rfl⟩ | exact ⟨s3d.cell 2 _ rfl, s3d.cell 7 _ rfl, s3d.cell 8 _ rfl, s3d.cell 9 _ rfl, s3d.cell 10 _ rfl, s3d.cell 11 _ rfl⟩ | go_keep)
          (first | (go_at_call 55; refine (uvarint_any w.heap.size v3 _ a.rev _ s3d.buf s3d.size (by simp; omega) hka.rev).mono ?_; rintro e w4 ⟨v4, rfl, hb4, ha4⟩; have s4 := s3d.step (by decide) hb4 ha4) | (go_at_call 66; refine (lease_any w v4 _ a.lid a.ttl a.rem _ a.lmore a.keys _ s4.buf s4.old HK.out hka.lid hka.ttl hka.rem1 hka.rem2 (by simp; omega)).mono ?_; rintro e w6 ⟨v6, rfl, hb6, ha6⟩; have s6 := s4.step (by decide) hb6 ha6))
        go_wp2_with fail
        go_roundw
        case rel =>
          refine ⟨k + 1, by omega, by go_num, ?_, s6.old⟩
          unfold Hid
          rw [hsn.out, ← List.append_assoc, HLk.out]
          simpa [encAns, encRest, e7.out] using s6.buf
        case measure => simp [intOf]; omega
      · -- 1
        have e1 : Hid (a.code = 1) := show a.code = 1 by omega
        go_wp2_with (at_builtin; refine wpList_byte rfl _ _ rfl (wr.alloc (.cells #[.int .u8 a.code, .bool a.found, .int .u64 a.rev, .slice ao3 a.val.length cap3, .int .u64 a.prev, .slice ao5 a.ents.length cap5, .bool a.pmore, .int .u64 a.lid, .int .u32 a.ttl, .int .i64 a.rem, .slice ao10 a.keys.length cap10, .bool a.lmore] 110)) w.heap.size _ lk s2.buf s2.size (by omega) _ a.code.toUInt8 (by simp; omega) (wr.heap.size + 1) (by simp) rfl rfl ?_; intro v3 w3 hb3 ha3; have s3 := s2.step (by decide) hb3 ha3; have c3 := s3.cell 0 _ rfl;  clear s2 hb3 ha3 x0 x1 x2 x3 x4 x5 x6 x7 x8 x9 x10 x11)
        go_roundw
        case rel =>
          refine ⟨k + 1, by omega, by go_num, ?_, s3.old⟩
          unfold Hid
          rw [hsn.out, ← List.append_assoc, HLk.out]
          simpa [encAns, encRest, e1.out] using s3.buf
        case measure => simp [intOf]; omega
      · -- 3
        have e1 : Hid (a.code = 3) := show a.code = 3 by omega
        go_wp2_with (at_builtin; refine wpList_byte rfl _ _ rfl (wr.alloc (.cells #[.int .u8 a.code, .bool a.found, .int .u64 a.rev, .slice ao3 a.val.length cap3, .int .u64 a.prev, .slice ao5 a.ents.length cap5, .bool a.pmore, .int .u64 a.lid, .int .u32 a.ttl, .int .i64 a.rem, .slice ao10 a.keys.length cap10, .bool a.lmore] 110)) w.heap.size _ lk s2.buf s2.size (by omega) _ a.code.toUInt8 (by simp; omega) (wr.heap.size + 1) (by simp) rfl rfl ?_; intro v3 w3 hb3 ha3; have s3 := s2.step (by decide) hb3 ha3; have c3 := s3.cell 0 _ rfl;  clear s2 hb3 ha3 x0 x1 x2 x3 x4 x5 x6 x7 x8 x9 x10 x11)
        go_roundw
        case rel =>
          refine ⟨k + 1, by omega, by go_num, ?_, s3.old⟩
          unfold Hid
          rw [hsn.out, ← List.append_assoc, HLk.out]
          simpa [encAns, encRest, e1.out] using s3.buf
        case measure => simp [intOf]; omega
      · -- others
        have n0 : Hid (¬ a.code = 0 ∧ ¬ a.code = 2 ∧ ¬ a.code = 4 ∧ ¬ a.code = 6 ∧ ¬ a.code = 5 ∧ ¬ a.code = 7) := by unfold Hid; omega
        go_wp2_with (at_builtin; refine wpList_byte rfl _ _ rfl (wr.alloc (.cells #[.int .u8 a.code, .bool a.found, .int .u64 a.rev, .slice ao3 a.val.length cap3, .int .u64 a.prev, .slice ao5 a.ents.length cap5, .bool a.pmore, .int .u64 a.lid, .int .u32 a.ttl, .int .i64 a.rem, .slice ao10 a.keys.length cap10, .bool a.lmore] 110)) w.heap.size _ lk s2.buf s2.size (by omega) _ a.code.toUInt8 (by simp; omega) (wr.heap.size + 1) (by simp) rfl rfl ?_; intro v3 w3 hb3 ha3; have s3 := s2.step (by decide) hb3 ha3; have c3 := s3.cell 0 _ rfl;  clear s2 hb3 ha3 x0 x1 x2 x3 x4 x5 x6 x7 x8 x9 x10 x11)
        go_roundw
        case rel =>
          refine ⟨k + 1, by omega, by go_num, ?_, s3.old⟩
          unfold Hid
          rw [hsn.out, ← List.append_assoc, HLk.out]
          simpa [encAns, encRest, n0.out] using s3.buf
        case measure => simp [intOf]; omega
    · go_wp2_with fail
      go_ret
      refine ⟨_, rfl, ?_, hok.out⟩
      have := hbk.out
      rw [List.take_of_length_le (by omega)] at this
      simpa [encAll] using this
end Go.Proofs.Qxb6616714a
