import Derived.Test.Qxb6616714aCheckB
import Derived.Test.Qxb6616714aBig
import Derived.Test.Qxb6616714aSplit
namespace Go.Proofs.Qxb6616714a
open Go.RowKit

theorem check_any (w : World) (g n cap : Nat) (l : List UInt8) (i : Nat) (a : Ans) (r : List UInt8) (b o12 : Nat) (hn : l.length = n) (ht : Txt w g l) (hd : l.drop i = encAns a ++ r) (hx : ∀ j u, (inCells a)[j]? = some u → w.cell? ⟨b, o12 + j, none⟩ = some u) (hk : a.okI w) (hw : ansW a ≤ 1073741824) (hnn : n ≤ 1099511627776) :
    Calls Try.prog 24 #[.slice (some ⟨g, 0, none⟩) n cap, .int .i64 i, .pointer (some ⟨b, o12, none⟩)] w fun e w' => Reads l r n i w e w' := by
  have hcases : a.code ≤ 0 ∨ (2 ≤ a.code ∧ a.code ≤ 2) ∨ (4 ≤ a.code ∧ a.code ≤ 4) ∨ (6 ≤ a.code ∧ a.code ≤ 6) ∨ (5 ≤ a.code ∧ a.code ≤ 5) ∨ (7 ≤ a.code ∧ a.code ≤ 7) ∨ (1 ≤ a.code ∧ a.code ≤ 1) ∨ (3 ≤ a.code ∧ a.code ≤ 3) ∨ 8 ≤ a.code := by omega
  rcases hcases with hc | ⟨hc, hc'⟩ | ⟨hc, hc'⟩ | ⟨hc, hc'⟩ | ⟨hc, hc'⟩ | ⟨hc, hc'⟩ | ⟨hc, hc'⟩ | ⟨hc, hc'⟩ | hc
  · exact check0 w g n cap l i a r b o12 hn ht hd hx hk hw hnn hc
  · exact check2 w g n cap l i a r b o12 hn ht hd hx hk hw hnn hc hc'
  · exact check4 w g n cap l i a r b o12 hn ht hd hx hk hw hnn hc hc'
  · exact check6 w g n cap l i a r b o12 hn ht hd hx hk hw hnn hc hc'
  · exact check5 w g n cap l i a r b o12 hn ht hd hx hk hw hnn hc hc'
  · rcases Int.lt_or_le a.rem 1000000 with h | h
    · exact check7b w g n cap l i a r b o12 hn ht hd hx hk hw hnn hc hc' h
    · exact check7a w g n cap l i a r b o12 hn ht hd hx hk hw hnn hc hc' h
  · exact check1 w g n cap l i a r b o12 hn ht hd hx hk hw hnn hc hc'
  · exact check3 w g n cap l i a r b o12 hn ht hd hx hk hw hnn hc hc'
  · exact check8 w g n cap l i a r b o12 hn ht hd hx hk hw hnn hc

set_option maxHeartbeats 4000000 in
set_option maxRecDepth 20000 in
theorem back_any (w : World) (av : Value) (xs : List Ans) (hp : Rd w av xs.length (xs.flatMap inCells)) (he : ∀ a ∈ xs, a.okI w) :
    Calls Try.prog 6 #[av] w fun e w' => e = .returned (.bool true) ∧ Below w.heap.size w w' := by
  have HP : Hid (Rd w av xs.length (xs.flatMap inCells)) := hp
  have HE : Hid (∀ a ∈ xs, a.okI w) := he
  clear he
  obtain ⟨ao, cap, rfl, g1, g2, g3, g4⟩ := hp
  clear g3 g4
  unfold maxLen at g2
  go_enter Try.func6, Try.ntmps6
  go_wp2_with fail
  refine (bytes20 w _ xs HP.out HE.out).mono ?_
  rintro e w1 ⟨B, rfl, rfl, hB⟩
  cases B with
  | false =>
    go_wp2_with fail
    go_ret
    exact ⟨rfl, Below.refl _ _⟩
  | true =>
  obtain ⟨hn, hsm⟩ := hB rfl
  have HS : Hid (∀ a ∈ xs, SmallA a) := hsm
  clear hB hsm
  go_wp2_with fail
  refine (tooBig_any w1 _ xs HP.out HE.out HS.out hn).mono ?_
  rintro e w2 ⟨B, rfl, hbel, hB⟩
  cases B with
  | true =>
    go_wp2_with fail
    go_ret
    exact ⟨rfl, hbel⟩
  | false =>
  have hall := hB rfl
  have HB : Hid (Below w1.heap.size w1 w2) := hbel
  clear hB hbel HS
  go_wp2_with fail
  refine (build_any w2 _ xs (HP.out.later HB.out) (fun a ha => (HE.out a ha).later HB.out) (by omega)).mono ?_
  rintro e w3 ⟨v3, rfl, hb3, hB3⟩
  have HB3 : Hid (Below w1.heap.size w1 w3) := HB.out.trans (hB3.mono HB.out.size)
  obtain ⟨ga, ca, hva, hga, hca⟩ := bufForm hb3 (encAll_pos xs)
  subst hva
  have HT : Hid (Txt w3 ga (encAll xs)) := hca
  have ea := encAll_eq xs
  have la := encAll_len xs
  have hbb := body_le xs w1 (by omega) HE.out
  have hu1 := Lib.uvarint_length64 (x := xs.length) (by omega)
  have c0 : w3.cell? ⟨ga, 0, none⟩ = some (.int .u8 24) := by
    have := hca 0 24 (by rw [ea]; rfl)
    simpa using this
  have HD : Hid ((encAll xs).drop 1 = Lib.uvarint xs.length ++ body xs) := by unfold Hid; rw [ea]; rfl
  have hpos : 1 ≤ (encAll xs).length := by omega
  have hsz : (encAll xs).length ≤ 1099511627776 := by omega
  clear hb3 hB3 ea la hbb hu1 hca
  generalize hLL : encAll xs = l at *
  clear hLL
  generalize hN : l.length = nA at *
  have HN : Hid (l.length = nA) := hN
  clear hN
  go_wp2_with fail
  refine (expUv_any w3 ga nA ca l 1 xs.length (body xs) HN.out HT.out HD.out (by omega) hsz _ rfl _ rfl).mono ?_
  rintro e w4 ⟨i4c, rfl, hdr, hle, hle2, hbel⟩
  have HB4 : Hid (Below w3.heap.size w3 w4) := hbel
  have HD4 : Hid (l.drop i4c = body xs) := hdr
  clear hdr hbel c0
  go_wp2_with fail
  go_loopw [4, 35] (fun c kv wr => ∃ (j i5 : Nat), j ≤ xs.length ∧ c = .int .i64 i5 ∧ kv = .int .i64 j ∧ i5 ≤ nA ∧ Hid (l.drop i5 = (xs.drop j).flatMap encAns ++ []) ∧ Hid (Below w3.heap.size w3 wr)) (fun _ kv _ => xs.length - (intOf kv).toNat)
  case atStart => exact ⟨0, i4c, by omega, rfl, rfl, hle2, by simpa [Hid, body] using HD4, HB4⟩
  case round =>
    obtain ⟨j, i5c, hj, rfl, rfl, hi5n, HD5, HB5⟩ := hrel
    obtain ⟨w5, hw5⟩ : ∃ w5, w5 = wr := ⟨_, rfl⟩
    subst hw5
    by_cases hjl : j < xs.length
    case neg =>
      have hend : i5c = nA := by
        have h := congrArg List.length HD5.out
        rw [List.drop_of_length_le (l := xs) (i := j) (by omega)] at h
        simp only [List.length_drop, HN.out, List.flatMap_nil, List.append_nil, List.length_nil] at h
        omega
      subst hend
      go_wp2_with fail
      go_ret
      exact ⟨by simp, HB3.out.trans (HB5.out.mono HB3.out.size)⟩
    obtain ⟨b, off, cap', hv, q1, q2, hcell⟩ := HP.out.elem (f := inCells) (size := 12) (fun _ => rfl) (by omega) (by omega)
    simp only [Value.slice.injEq, true_and] at hv
    obtain ⟨rfl, rfl⟩ := hv
    have hb15 : Below w1.heap.size w1 w5 := HB3.out.trans (HB5.out.mono HB3.out.size)
    have hka := (HE.out xs[j] (List.getElem_mem hjl)).later hb15
    have hW := allW_split xs j hjl
    have HDE : Hid (l.drop i5c = encAns xs[j] ++ (((xs.drop (j + 1)).flatMap encAns) ++ [])) := by
      unfold Hid
      rw [HD5.out, List.drop_eq_getElem_cons hjl, List.flatMap_cons, List.append_assoc]
    have HC : Hid (∀ k u, (inCells xs[j])[k]? = some u → w5.cell? ⟨b, off + j * 12 + k, none⟩ = some u) := fun k u h => by
      rw [Nat.add_assoc]
      exact (hb15.cell (World.block_lt_of_cell? w1 _ (hcell j hjl k u h))).trans (hcell j hjl k u h)
    clear hcell HD5 hb15
    generalize xs[j] = a at hka hW HDE HC
    go_wp2_with fail
    refine (check_any w5 ga nA ca l i5c a ((xs.drop (j + 1)).flatMap encAns ++ []) b (off + j * 12) HN.out (HT.out.later HB5.out) HDE.out HC.out hka (by omega) hsz).mono ?_
    rintro e w6 ⟨i6c, rfl, hdr, hle', hle2', hbel⟩
    have HB6 : Hid (Below w3.heap.size w3 w6) := HB5.out.trans (hbel.mono HB5.out.size)
    have HD6 : Hid (l.drop i6c = (xs.drop (j + 1)).flatMap encAns ++ []) := hdr
    clear hdr hbel hka
    go_wp2_with fail
    go_roundw
    case rel => exact ⟨j + 1, i6c, by omega, rfl, by go_num, hle2', HD6, HB6⟩
    case measure => simp [intOf]; omega
end Go.Proofs.Qxb6616714a
