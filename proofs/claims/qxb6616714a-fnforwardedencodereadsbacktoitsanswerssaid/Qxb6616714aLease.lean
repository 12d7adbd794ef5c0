import Derived.Test.Qxb6616714aData
namespace Go.Proofs.Qxb6616714a
open Go.RowKit

theorem tdiv_bd (d : Int) (h1 : -9223372036854775808 ≤ d) (h2 : d ≤ 9223372036854775807) : -9223372036854775808 ≤ d.tdiv 1000000 ∧ d.tdiv 1000000 ≤ 9223372036854775807 := by
  rcases Int.le_total 0 d with h | h
  · rw [Int.tdiv_eq_ediv_of_nonneg h]; omega
  · have e : d = -(-d) := by omega
    rw [e, Int.neg_tdiv, Int.tdiv_eq_ediv_of_nonneg (by omega)]; omega
theorem tdiv_le (d : Int) (h : d ≤ 0) : d.tdiv 1000000 ≤ 0 := by
  have e : d = -(-d) := by omega
  rw [e, Int.neg_tdiv, Int.tdiv_eq_ediv_of_nonneg (by omega)]; omega
theorem msOf_lt (d : Int) (h2 : d ≤ 9223372036854775807) : msOf d < 18446744073709551616 := by
  unfold msOf
  rcases Int.le_total 0 d with h | h
  · rw [Int.tdiv_eq_ediv_of_nonneg h] at *
    omega
  · have := tdiv_le d h
    omega
theorem wrap_ms (d m : Int) (h2 : d ≤ 9223372036854775807) (hm : m = max (d.tdiv 1000000) 0) : IntKind.u64.wrap m = ((msOf d : Nat) : Int) := by
  have h := msOf_lt d h2
  rw [IntKind.wrap_u64]
  unfold msOf at *
  omega

theorem ms_any (d : Int) (h1 : -9223372036854775808 ≤ d) (h2 : d ≤ 9223372036854775807) (w : World) : Calls Try.prog 68 #[.int .i64 d] w fun e w' => e = .returned (.int .i64 (d.tdiv 1000000)) ∧ w' = w := by
  have hb := tdiv_bd d h1 h2
  clear h1 h2
  go_enter Try.func68, Try.ntmps68
  go_wp2
  go_ret
  exact ⟨rfl, rfl⟩

theorem keysW_len (ks : List ByteArray) : ks.length ≤ keysW ks := by
  induction ks with
  | nil => simp
  | cons e r ih => simp only [List.length_cons, keysW] at *; omega
theorem keysW_take (ks : List ByteArray) : ∀ k, keysW (ks.take k) ≤ keysW ks := by
  induction ks with
  | nil => intro k; simp
  | cons e r ih =>
    intro k
    cases k with
    | zero => simp [keysW]
    | succ k => simp only [List.take_succ_cons, keysW]; have := ih k; omega
theorem keysW_split (ks : List ByteArray) : ∀ k (h : k < ks.length), keysW (ks.take k) + 16 + ks[k].size ≤ keysW ks := by
  induction ks with
  | nil => intro k h; simp at h
  | cons e r ih =>
    intro k h
    cases k with
    | zero => simp [keysW]
    | succ k => simp only [List.take_succ_cons, keysW, List.getElem_cons_succ]; have := ih k (by simpa using h); omega
theorem keys_enc_len (ks : List ByteArray) (h1 : keysW ks ≤ 137438953472) : (ks.flatMap strB).length ≤ keysW ks := by
  induction ks with
  | nil => simp
  | cons e r ih =>
    simp only [List.flatMap_cons, List.length_append, keysW, strB, Array.length_toList] at *
    have a := Lib.uvarint_length64 (x := e.size) (by omega)
    have b : e.data.size = e.size := rfl
    have := ih (by omega)
    omega

def keyCells (s : ByteArray) : List Value := [.string s]
theorem conv_below (w : World) (O : Obj) : Below w.heap.size w (w.alloc O).drew := ((Below.refl _ _).alloc (Nat.le_refl _) _).drew

set_option maxHeartbeats 1000000 in
set_option maxRecDepth 20000 in
theorem lease_any (w0 : World) (v : Value) (l : List UInt8) (lid ttl : Nat) (rem : Int) (kv : Value) (more : Bool) (keys : List ByteArray) (w : World) (hb : Buf w w0.heap.size v l) (h0 : Below w0.heap.size w0 w)
    (hp : Rd w0 kv keys.length (keys.flatMap keyCells)) (h1 : lid < 18446744073709551616) (h2 : ttl < 4294967296) (h3 : -9223372036854775808 ≤ rem) (h4 : rem ≤ 9223372036854775807) (hl : l.length + 64 + keysW keys ≤ 137438953472) :
    Calls Try.prog 66 #[v, .agg #[.int .u64 lid, .int .u32 ttl, .int .i64 rem, kv, .bool more]] w fun e w' => ∃ v', e = .returned v' ∧ Buf w' w0.heap.size v' (l ++ encLease lid ttl rem more keys) ∧ App w v w' v' := by
  have s0 := St.start hb h0 ((Below.refl _ w).alloc (Nat.le_refl _) (.cells #[.int .u64 lid, .int .u32 ttl, .int .i64 rem, kv, .bool more] 106)) (heap_new w _)
  have HP : Hid (Rd w0 kv keys.length (keys.flatMap keyCells)) := hp
  have H1 : Hid (lid < 18446744073709551616) := h1
  have H3 : Hid (-9223372036854775808 ≤ rem) := h3
  have H4 : Hid (rem ≤ 9223372036854775807) := h4
  have hlen : keys.length ≤ keysW keys := keysW_len keys
  have hu1 := Lib.uvarint_length64 h1
  have hu2 := Lib.uvarint_length64 (x := ttl) (by omega)
  have hu3 := Lib.uvarint_length64 (x := keys.length) (by omega)
  have hu4 := Lib.uvarint_length64 (x := msOf rem) (msOf_lt rem h4)
  clear hb h0 h1 h3 h4
  obtain ⟨ao, cap, rfl, g1, g2, g3, g4⟩ := hp
  clear g3 g4
  unfold maxLen at g2
  go_enter Try.func66, Try.ntmps66
  go_wp2_with fail
  refine (uvarint_any w0.heap.size v l lid _ s0.buf s0.size (by omega) H1.out).mono ?_
  rintro e w1 ⟨v1, rfl, hb1, ha1⟩
  have s1 := s0.step (by decide) hb1 ha1
  have c1 := s1.cell 1 _ rfl
  clear s0 hb1 ha1
  go_wp2_with fail
  refine (uvarint_any w0.heap.size v1 _ ttl _ s1.buf s1.size (by simp; omega) (by omega)).mono ?_
  rintro e w2 ⟨v2, rfl, hb2, ha2⟩
  have s2 := s1.step (by decide) hb2 ha2
  have c2 := s2.cell 2 _ rfl
  clear s1 hb2 ha2 c1
  go_wp2_with fail
  refine (ms_any rem H3.out H4.out _).mono ?_
  rintro e w3 ⟨rfl, rfl⟩
  go_wp2_with fail
  all_goals
    first
      | rw [wrap_ms rem 0 H4.out (by omega)]
      | rw [wrap_ms rem (rem.tdiv 1000000) H4.out (by omega)]
    refine (uvarint_any w0.heap.size v2 _ (msOf rem) _ s2.buf s2.size (by simp; omega) (msOf_lt rem H4.out)).mono ?_
    rintro e w4 ⟨v4, rfl, hb4, ha4⟩
    have s4 := s2.step (by decide) hb4 ha4
    have c4 := s4.cell 4 _ rfl
    clear s2 hb4 ha4 c2
    go_wp2_with fail
    refine (flag_any w0.heap.size v4 _ more _ s4.buf s4.size (by simp; omega)).mono ?_
    rintro e w5 ⟨v5, rfl, hb5, ha5⟩
    have s5 := s4.step (by decide) hb5 ha5
    have c5 := s5.cell 3 _ rfl
    clear s4 hb5 ha5 c4
    go_wp2_with fail
    refine (uvarint_any w0.heap.size v5 _ keys.length _ s5.buf s5.size (by simp; omega) (by omega)).mono ?_
    rintro e w6 ⟨v6, rfl, hb6, ha6⟩
    have s6 := s5.step (by decide) hb6 ha6
    have c6 := s6.cell 3 _ rfl
    clear s5 hb6 ha6 c5
    go_wp2_with fail
    generalize hL6 : l ++ Lib.uvarint lid ++ Lib.uvarint ttl ++ Lib.uvarint (msOf rem) ++ [if more then 1 else 0] ++ Lib.uvarint keys.length = l6 at s6
    have HL6 : Hid (l ++ Lib.uvarint lid ++ Lib.uvarint ttl ++ Lib.uvarint (msOf rem) ++ [if more then 1 else 0] ++ Lib.uvarint keys.length = l6) := hL6
    have hl6 : l6.length ≤ l.length + 41 := by rw [← hL6]; simp; omega
    clear hL6 hu1 hu2 hu3 hu4 c6
    go_loopw [0, 38] (fun b i wr => ∃ k : Nat, k ≤ keys.length ∧ i = .int .i64 k ∧ St w0 w v w.heap.size 106 #[.int .u64 lid, .int .u32 ttl, .int .i64 rem, .slice ao keys.length cap, .bool more] wr b (l6 ++ (keys.take k).flatMap strB)) (fun _ i _ => keys.length - (intOf i).toNat)
    case atStart => exact ⟨0, by omega, rfl, by simpa using s6⟩
    case round =>
      obtain ⟨k, hk, rfl, sk⟩ := hrel
      clear s6
      by_cases hlt : k < keys.length
      · obtain ⟨b, off, cap', hv, q1, q2, hcell⟩ := HP.out.elem (f := keyCells) (size := 1) (fun _ => rfl) (by omega) (by omega)
        simp only [Value.slice.injEq, true_and] at hv
        obtain ⟨rfl, rfl⟩ := hv
        have x0 : wr.cell? ⟨b, off + k, none⟩ = some (.string keys[k]) := by
          have h := hcell k hlt 0 _ rfl
          rw [Nat.mul_one, Nat.add_zero] at h
          exact (sk.old.cell (World.block_lt_of_cell? w0 _ h)).trans h
        clear hcell
        have hW := keysW_split keys k hlt
        have hT := keys_enc_len (keys.take k) (by have := keysW_take keys k; omega)
        have hsn : Hid ((keys.take (k + 1)).flatMap strB = (keys.take k).flatMap strB ++ strB keys[k]) := flat_take strB keys k hlt
        generalize keys[k] = ek at x0 hW hsn
        have hcv := fun w s => run_bytes_of_string (P := Try.prog) w 9 34 5 s Try.underlying9 Try.underlying34 Try.underlying5
        go_wp2_with fail
        have cw := fun O => conv_below wr O
        refine (bytes_any w0.heap.size u0 _ _ ek.data.toList _ (sk.buf.later (cw _)) (Nat.le_trans sk.size (cw _).size) (Rd_conv _ ek _ _ _ rfl ?_ ?_) ?_ ?_).mono ?_
        · exact grownCap_ge _ _ _ _
        · exact grownCap_le_maxLen _ _ _ _ (by unfold maxLen; omega)
        · intro q hq _ e
          have h1 := (World.ownsRow.lt sk.buf q e).2
          simp [Value.ownBlock] at hq
          omega
        · have : ek.data.size = ek.size := rfl
          simp only [List.length_append, Array.length_toList]
          omega
        rintro e w7 ⟨v7, rfl, hb7, ha7⟩
        have s7 := sk.step (by decide) hb7 (App.trans (App.of_below _ (cw _)) ha7)
        clear hb7 ha7 cw
        go_wp2_with fail
        go_roundw
        case rel =>
          refine ⟨k + 1, by omega, by go_num, ?_⟩
          rw [hsn.out]
          simpa [strB, Array.length_toList] using s7
        case measure => simp [intOf]; omega
      · go_wp2_with fail
        go_ret
        refine ⟨_, rfl, ?_, sk.app⟩
        have := sk.buf
        rw [← HL6.out, List.take_of_length_le (by omega)] at this
        simpa [encLease, flagB] using this
end Go.Proofs.Qxb6616714a
