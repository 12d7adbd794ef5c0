import Derived.Test.Qxb6616714aData
namespace Go.Proofs.Qxb6616714a
open Go.RowKit

set_option maxHeartbeats 1000000 in
set_option maxRecDepth 20000 in
theorem page_any (w0 : World) (v : Value) (l : List UInt8) (prev : Nat) (pv : Value) (more : Bool) (ents : List Ent) (w : World) (hb : Buf w w0.heap.size v l) (h0 : Below w0.heap.size w0 w)
    (hp : Rd w0 pv ents.length (ents.flatMap entCells)) (he : ∀ e ∈ ents, e.ok w0) (hprev : prev < 18446744073709551616) (hl : l.length + 64 + entsW ents ≤ 137438953472) :
    Calls Try.prog 65 #[v, .agg #[.int .u64 prev, pv, .bool more]] w fun e w' => ∃ v', e = .returned v' ∧ Buf w' w0.heap.size v' (l ++ encPage prev more ents) ∧ App w v w' v' := by
  have s0 := St.start hb h0 ((Below.refl _ w).alloc (Nat.le_refl _) (.cells #[.int .u64 prev, pv, .bool more] 99)) (heap_new w _)
  have HP : Hid (Rd w0 pv ents.length (ents.flatMap entCells)) := hp
  have HE : Hid (∀ e ∈ ents, e.ok w0) := he
  have HV : Hid (prev < 18446744073709551616) := hprev
  have HL : Hid (l.length + 64 + entsW ents ≤ 137438953472) := hl
  have hlen := entsW_len ents
  have hu1 := Lib.uvarint_length64 hprev
  have hu2 := Lib.uvarint_length64 (x := ents.length) (by omega)
  clear hb h0 he hprev
  obtain ⟨ao, cap, rfl, g1, g2, g3, g4⟩ := hp
  clear g3 g4
  unfold maxLen at g2
  go_enter Try.func65, Try.ntmps65
  go_wp2_with fail
  refine (uvarint_any w0.heap.size v l prev _ s0.buf s0.size (by omega) HV.out).mono ?_
  rintro e w1 ⟨v1, rfl, hb1, ha1⟩
  have s1 := s0.step (by decide) hb1 ha1
  have c1 := s1.cell 2 _ rfl
  clear s0 hb1 ha1
  go_wp2_with fail
  refine (flag_any w0.heap.size v1 _ more _ s1.buf s1.size (by simp; omega)).mono ?_
  rintro e w2 ⟨v2, rfl, hb2, ha2⟩
  have s2 := s1.step (by decide) hb2 ha2
  have c2 := s2.cell 1 _ rfl
  clear s1 hb2 ha2 c1
  go_wp2_with fail
  refine (uvarint_any w0.heap.size v2 _ ents.length _ s2.buf s2.size (by simp; omega) (by omega)).mono ?_
  rintro e w3 ⟨v3, rfl, hb3, ha3⟩
  have s3 := s2.step (by decide) hb3 ha3
  have c3 := s3.cell 1 _ rfl
  clear s2 hb3 ha3 c2
  go_wp2_with fail
  generalize hL3 : l ++ Lib.uvarint prev ++ [if more then 1 else 0] ++ Lib.uvarint ents.length = l3 at s3
  have HL3 : Hid (l ++ Lib.uvarint prev ++ [if more then 1 else 0] ++ Lib.uvarint ents.length = l3) := hL3
  have hl3 : l3.length ≤ l.length + 21 := by rw [← hL3]; simp; omega
  clear hL3 hu1 hu2
  have hrevs : Hid (∀ e ∈ ents, e.rev < 18446744073709551616) := fun e he => (HE.out e he).2
  go_loopw [0, 24] (fun b i wr => ∃ k : Nat, k ≤ ents.length ∧ i = .int .i64 k ∧ St w0 w v w.heap.size 99 #[.int .u64 prev, .slice ao ents.length cap, .bool more] wr b (l3 ++ (ents.take k).flatMap encEnt)) (fun _ i _ => ents.length - (intOf i).toNat)
  case atStart => exact ⟨0, by omega, rfl, by simpa using s3⟩
  case round =>
    obtain ⟨k, hk, rfl, sk⟩ := hrel
    clear s3 c3
    by_cases hlt : k < ents.length
    · obtain ⟨b, off, cap', hv, q1, q2, hcell⟩ := HP.out.elem (f := entCells) (size := 3) (fun _ => rfl) (by omega) (by omega)
      simp only [Value.slice.injEq, true_and] at hv
      obtain ⟨rfl, rfl⟩ := hv
      have x0 : wr.cell? ⟨b, off + k * 3, none⟩ = some (.string ents[k].key) := (sk.old.cell (World.block_lt_of_cell? w0 _ (hcell k hlt 0 _ rfl))).trans (hcell k hlt 0 _ rfl)
      have x1 : wr.cell? ⟨b, off + k * 3 + 1, none⟩ = some ents[k].vv := (sk.old.cell (World.block_lt_of_cell? w0 _ (hcell k hlt 1 _ rfl))).trans (hcell k hlt 1 _ rfl)
      have x2 : wr.cell? ⟨b, off + k * 3 + 2, none⟩ = some (.int .u64 ents[k].rev) := (sk.old.cell (World.block_lt_of_cell? w0 _ (hcell k hlt 2 _ rfl))).trans (hcell k hlt 2 _ rfl)
      clear hcell
      have hok := HE.out ents[k] (List.getElem_mem hlt)
      have hW := entsW_split ents k hlt
      have hT := ents_len (ents.take k) (by have := entsW_take ents k; omega) (fun e he => hrevs.out e (List.mem_of_mem_take he))
      have hsn : Hid ((ents.take (k + 1)).flatMap encEnt = (ents.take k).flatMap encEnt ++ encEnt ents[k]) := flat_take encEnt ents k hlt
      generalize ents[k] = e at x0 x1 x2 hok hW hsn
      obtain ⟨ek, er, ev, el⟩ := e
      simp only [entW] at hW
      obtain ⟨hrd, hrev⟩ := hok
      have HRD : Hid (Rd w0 ev el.length (byteCells el)) := hrd
      have HREV : Hid (er < 18446744073709551616) := hrev
      obtain ⟨ao2, cap2, hvv, _⟩ := hrd
      dsimp only at hvv x0 x1 x2
      subst hvv
      clear hrev
      have hcv := fun w s => run_bytes_of_string (P := Try.prog) w 9 34 5 s Try.underlying9 Try.underlying34 Try.underlying5
      go_wp2_with fail
      have cw := conv_world wr (.cells #[.string ek, .slice ao2 el.length cap2, .int .u64 er] 138)
      have s4 := fun O => St.start (bx := wr.heap.size) sk.buf sk.old (cw O).1 (cw O).2
      clear cw
      refine (bytes_any w0.heap.size u0 _ _ ek.data.toList _ (s4 _).buf (s4 _).size (Rd_conv _ ek _ _ _ (by simp) ?_ ?_) ?_ ?_).mono ?_
      · exact grownCap_ge _ _ _ _
      · exact grownCap_le_maxLen _ _ _ _ (by unfold maxLen; omega)
      · intro q hq _ e
        have h1 := (World.ownsRow.lt sk.buf q e).2
        simp [Value.ownBlock] at hq
        omega
      · have : ek.data.size = ek.size := rfl
        simp only [List.length_append, Array.length_toList]
        omega
      rintro e w5 ⟨v5, rfl, hb5, ha5⟩
      have s5 := (s4 _).step (by decide) hb5 ha5
      have c5 := s5.cell 2 _ rfl
      clear s4 hb5 ha5 x0 x1 x2
      go_wp2_with fail
      have hk1 := Lib.uvarint_length64 (x := ek.data.toList.length) (by simp; omega)
      have hk2 := Lib.uvarint_length64 (x := er) HREV.out
      have hks : ek.data.size = ek.size := rfl
      refine (uvarint_any w0.heap.size v5 _ er _ s5.buf s5.size (by simp only [List.length_append, Array.length_toList] at hk1 ⊢; omega) HREV.out).mono ?_
      rintro e w6 ⟨v6, rfl, hb6, ha6⟩
      have s6 := s5.step (by decide) hb6 ha6
      have c6 := s6.cell 1 _ rfl
      clear s5 hb6 ha6 c5
      go_wp2_with fail
      refine (bytes_any w0.heap.size v6 _ _ el _ s6.buf s6.size (s6.rd HRD.out) (s6.apart HRD.out) (by simp only [List.length_append, Array.length_toList] at hk1 ⊢; omega)).mono ?_
      rintro e w7 ⟨v7, rfl, hb7, ha7⟩
      have s7 := s6.step (by decide) hb7 ha7
      clear s6 hb7 ha7 c6
      go_wp2_with fail
      go_roundw
      case rel =>
        refine ⟨k + 1, by omega, by go_num, ?_⟩
        have hfin := s7.buf
        have := sk.step (by decide) s7.buf s7.app
        rw [hsn.out]
        simpa [encEnt, strB, bytesB, Array.length_toList] using this
      case measure => simp [intOf]; omega
    · go_wp2_with fail
      go_ret
      refine ⟨_, rfl, ?_, sk.app⟩
      have := sk.buf
      rw [← HL3.out, List.take_of_length_le (by omega)] at this
      simpa [encPage, flagB] using this
end Go.Proofs.Qxb6616714a
