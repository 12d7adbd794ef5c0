import Derived.Test.Qxb6616714aCheckA
namespace Go.Proofs.Qxb6616714a
open Go.RowKit
set_option linter.unusedVariables false

set_option maxHeartbeats 4000000 in
set_option maxRecDepth 20000 in
theorem check5 (w : World) (g n cap : Nat) (l : List UInt8) (i : Nat) (a : Ans) (r : List UInt8) (b o12 : Nat) (hn : l.length = n) (ht : Txt w g l) (hd : l.drop i = encAns a ++ r) (hx : ∀ j u, (inCells a)[j]? = some u → w.cell? ⟨b, o12 + j, none⟩ = some u) (hk : a.okI w) (hw : ansW a ≤ 1073741824) (hnn : n ≤ 1099511627776) (hc : 5 ≤ a.code) (hc2 : a.code ≤ 5) :
    Calls Try.prog 24 #[.slice (some ⟨g, 0, none⟩) n cap, .int .i64 i, .pointer (some ⟨b, o12, none⟩)] w fun e w' => Reads l r n i w e w' := by
  have HN : Hid (l.length = n) := hn
  have HT : Hid (Txt w g l) := ht
  have hcode := hk.code
  have hd1 : l.drop i = [a.code.toUInt8] ++ (encRest a ++ r) := by rw [hd]; rfl
  have h2 := drop_len hd1 (by simp)
  rw [hn] at h2
  have h2' : i + 1 ≤ n := h2
  have c0 : w.cell? ⟨g, i, none⟩ = some (.int .u8 a.code) := by
    have := ht i _ (drop_at hd1 0 (by simp))
    rw [Nat.zero_add] at this
    rw [this]
    simp
    omega
  have hbw : b < w.heap.size := World.block_lt_of_cell? w _ (hx 0 _ rfl)
  have HX : Hid (∀ wx, Below w.heap.size w wx → ∀ j u, (inCells a)[j]? = some u → wx.cell? ⟨b, o12 + j, none⟩ = some u) := fun wx hb j u hu => (hb.cell (p := ⟨b, o12 + j, none⟩) hbw).trans (hx j u hu)
  have x0 : w.cell? ⟨b, o12, none⟩ = some (.int .u8 a.code) := hx 0 _ rfl
  have HD1 : Hid (l.drop (i + 1) = encRest a ++ r) := drop_more hd1
  have gd1 : decide ((i : Int) < 0) = false := decide_eq_false (by omega)
  have gd2 : decide (n ≤ i) = false := decide_eq_false (by omega)
  have i1 : (i : Int) < (n : Int) := by omega
  have i0 : (0 : Int) ≤ (i : Int) := by omega
  obtain ⟨ao3, cap3, hv3, -⟩ := hk.val
  obtain ⟨ao6, cap6, hv6, -⟩ := hk.ents
  obtain ⟨ao11, cap11, hv11, -⟩ := hk.keys
  have H3 : Hid (a.vv = .slice ao3 a.val.length cap3) := hv3
  have H6 : Hid (a.ev = .slice ao6 a.ents.length cap6) := hv6
  have H11 : Hid (a.kv = .slice ao11 a.keys.length cap11) := hv11
  clear hx ht hd hd1 hn h2 hv3 hv6 hv11
  simp only [ansW] at hw
  go_enter Try.func24, Try.ntmps24
  go_wp2_with fail
  go_quiet (fail)
  have hbq := below_drewN (Below.refl w.heap.size w) nq
  generalize w.drewN nq = w1 at hbq ⊢
  have HB1 : Hid (Below w.heap.size w w1) := hbq
  have y1 : w1.cell? ⟨b, o12, none⟩ = some (.int .u8 a.code) := HX.out w1 hbq 0 _ rfl
  clear hbq c0 x0 gd1 gd2
  have e0 : Hid (a.code = 5) := show a.code = 5 by omega
  have HDR : Hid (encRest a ++ r = Lib.uvarint a.prev ++ (flagB a.pmore ++ (Lib.uvarint a.ents.length ++ (a.ents.flatMap encEnt ++ r)))) := by simp [Hid, encRest, encPage, e0.out]
  have hel := entsW_len a.ents
  have d1x4 : w1.cell? ⟨b, o12 + 4, none⟩ = some (.int .u64 a.prev) := HX.out w1 HB1.out 4 _ rfl
  go_wp2_with fail
  refine (expUv_any w1 g n cap l (i + 1) a.prev (flagB a.pmore ++ (Lib.uvarint a.ents.length ++ (a.ents.flatMap encEnt ++ r))) HN.out (HT.out.later HB1.out) (HD1.out.trans HDR.out) (hk.prev) hnn _ (by omega) _ rfl).mono ?_
  rintro e w2 ⟨i2c, rfl, hdr, hle, hle2, hbel⟩
  have HB2 : Hid (Below w.heap.size w w2) := HB1.out.trans (hbel.mono HB1.out.size)
  have HD2 : Hid (l.drop i2c = flagB a.pmore ++ (Lib.uvarint a.ents.length ++ (a.ents.flatMap encEnt ++ r))) := hdr
  clear hdr hbel
  have d2x5 : w2.cell? ⟨b, o12 + 5, none⟩ = some (.bool a.pmore) := HX.out w2 HB2.out 5 _ rfl
  go_wp2_with fail
  refine (expFlag_at w2 g n cap l i2c a.pmore (Lib.uvarint a.ents.length ++ (a.ents.flatMap encEnt ++ r)) HN.out (HT.out.later HB2.out) HD2.out hnn _ rfl).mono ?_
  rintro e w3 ⟨i3c, rfl, hdr, hle, hle2, hbel⟩
  have HB3 : Hid (Below w.heap.size w w3) := HB2.out.trans (hbel.mono HB2.out.size)
  have HD3 : Hid (l.drop i3c = Lib.uvarint a.ents.length ++ (a.ents.flatMap encEnt ++ r)) := hdr
  clear hdr hbel
  have d3x6 : w3.cell? ⟨b, o12 + 6, none⟩ = some (.slice ao6 a.ents.length cap6) := (by rw [← H6.out]; exact HX.out w3 HB3.out 6 _ rfl)
  go_wp2_with fail
  refine (expUv_any w3 g n cap l i3c a.ents.length (a.ents.flatMap encEnt ++ r) HN.out (HT.out.later HB3.out) (HD3.out) (by omega) hnn _ rfl _ rfl).mono ?_
  rintro e w4 ⟨i4c, rfl, hdr, hle, hle2, hbel⟩
  have HB4 : Hid (Below w.heap.size w w4) := HB3.out.trans (hbel.mono HB3.out.size)
  have HD4 : Hid (l.drop i4c = a.ents.flatMap encEnt ++ r) := hdr
  clear hdr hbel
  have d4x6 : w4.cell? ⟨b, o12 + 6, none⟩ = some (.slice ao6 a.ents.length cap6) := (by rw [← H6.out]; exact HX.out w4 HB4.out 6 _ rfl)
  go_wp2_with fail
  clear d4x6
  go_loopw [1, 147] (fun c kv wr => ∃ (j i5 : Nat), j ≤ a.ents.length ∧ c = .int .i64 i5 ∧ kv = .int .i64 j ∧ i ≤ i5 ∧ i5 ≤ n ∧ Hid (l.drop i5 = (a.ents.drop j).flatMap encEnt ++ r) ∧ Hid (Below w.heap.size w wr)) (fun _ kv _ => a.ents.length - (intOf kv).toNat)
  case atStart => exact ⟨0, i4c, by omega, rfl, rfl, by omega, by omega, HD4, HB4⟩
  case round =>
    obtain ⟨j, i5c, hj, rfl, rfl, hi5, hi5n, HD5, HB5⟩ := hrel
    obtain ⟨w5, hw5⟩ : ∃ w5, w5 = wr := ⟨_, rfl⟩
    subst hw5
    by_cases hjl : j < a.ents.length
    case neg =>
      go_wp2_with fail
      go_ret2
      refine ⟨i5c, rfl, ?_, hi5, hi5n, HB5.out⟩
      have h := HD5.out
      rw [List.drop_of_length_le (l := a.ents) (i := j) (by omega)] at h
      simpa using h
    have d5x6 : w5.cell? ⟨b, o12 + 6, none⟩ = some (.slice ao6 a.ents.length cap6) := (by rw [← H6.out]; exact HX.out w5 HB5.out 6 _ rfl)
    obtain ⟨b9, off9, cap9, hv9, q91, q92, hcell9⟩ := hk.ents.elem (f := inEnt) (size := 3) (fun _ => rfl) (by omega) (by omega)
    rw [H6.out] at hv9
    simp only [Value.slice.injEq, true_and] at hv9
    obtain ⟨rfl, rfl⟩ := hv9
    have hek := hk.each a.ents[j] (List.getElem_mem hjl)
    have hsp := entsW_split a.ents j hjl
    have HDE : Hid (l.drop i5c = strB a.ents[j].key ++ (Lib.uvarint a.ents[j].rev ++ (bytesB a.ents[j].val ++ ((a.ents.drop (j + 1)).flatMap encEnt ++ r)))) := by
      unfold Hid
      rw [HD5.out, List.drop_eq_getElem_cons hjl, List.flatMap_cons]
      simp [encEnt]
    have HC9 : Hid (∀ wx, Below w.heap.size w wx → ∀ i u, (inEnt a.ents[j])[i]? = some u → wx.cell? ⟨b9, off9 + (j * 3 + i), none⟩ = some u) := fun wx hb i u h => (hb.cell (World.block_lt_of_cell? w _ (hcell9 j hjl i u h))).trans (hcell9 j hjl i u h)
    clear hcell9 HD5
    generalize a.ents[j] = e at hek hsp HDE HC9
    simp only [entW] at hsp
    obtain ⟨ao92, cap92, hv92, -⟩ := hek.1
    have H92 : Hid (e.vv = .slice ao92 e.val.length cap92) := hv92
    have z0 : w5.cell? ⟨b9, off9 + j * 3, none⟩ = some (.string e.key) := HC9.out w5 HB5.out 0 _ rfl
    clear hv92
    generalize hb9 : off9 + j * 3 = o9 at z0
    go_wp2_with fail
    refine (expString_at w5 g n cap l i5c e.key (Lib.uvarint e.rev ++ (bytesB e.val ++ ((a.ents.drop (j + 1)).flatMap encEnt ++ r))) HN.out (HT.out.later HB5.out) HDE.out hnn _ rfl).mono ?_
    rintro e w6 ⟨i6c, rfl, hdr, hle, hle2, hbel⟩
    have HB6 : Hid (Below w.heap.size w w6) := HB5.out.trans (hbel.mono HB5.out.size)
    have HD6 : Hid (l.drop i6c = Lib.uvarint e.rev ++ (bytesB e.val ++ ((a.ents.drop (j + 1)).flatMap encEnt ++ r))) := hdr
    clear hdr hbel
    have z1 : w6.cell? ⟨b9, o9 + 1, none⟩ = some (.int .u64 e.rev) := by rw [← hb9]; exact HC9.out w6 HB6.out 1 _ rfl
    clear z0 d5x6
    go_wp2_with fail
    refine (expUv_any w6 g n cap l i6c e.rev (bytesB e.val ++ ((a.ents.drop (j + 1)).flatMap encEnt ++ r)) HN.out (HT.out.later HB6.out) HD6.out hek.2 hnn _ rfl _ rfl).mono ?_
    rintro e w7 ⟨i7c, rfl, hdr, hle, hle2, hbel⟩
    have HB7 : Hid (Below w.heap.size w w7) := HB6.out.trans (hbel.mono HB6.out.size)
    have HD7 : Hid (l.drop i7c = bytesB e.val ++ ((a.ents.drop (j + 1)).flatMap encEnt ++ r)) := hdr
    clear hdr hbel
    have z2 : w7.cell? ⟨b9, o9 + 2, none⟩ = some (.slice ao92 e.val.length cap92) := by rw [← hb9, ← H92.out]; exact HC9.out w7 HB7.out 2 _ rfl
    have hval := hek.1
    rw [H92.out] at hval
    replace hval := hval.later HB7.out
    clear z1
    go_wp2_with fail
    refine (expBytes_at w7 g n cap l i7c _ e.val ((a.ents.drop (j + 1)).flatMap encEnt ++ r) HN.out (HT.out.later HB7.out) HD7.out hval hnn _ rfl).mono ?_
    rintro e w8 ⟨i8c, rfl, hdr, hle, hle2, hbel⟩
    have HB8 : Hid (Below w.heap.size w w8) := HB7.out.trans (hbel.mono HB7.out.size)
    have HD8 : Hid (l.drop i8c = (a.ents.drop (j + 1)).flatMap encEnt ++ r) := hdr
    clear hdr hbel
    clear z2
    go_wp2_with fail
    go_roundw
    case rel => exact ⟨j + 1, i8c, by omega, rfl, by go_num, by omega, by omega, HD8, HB8⟩
    case measure => simp [intOf]; omega

set_option maxHeartbeats 4000000 in
set_option maxRecDepth 20000 in
theorem check7a (w : World) (g n cap : Nat) (l : List UInt8) (i : Nat) (a : Ans) (r : List UInt8) (b o12 : Nat) (hn : l.length = n) (ht : Txt w g l) (hd : l.drop i = encAns a ++ r) (hx : ∀ j u, (inCells a)[j]? = some u → w.cell? ⟨b, o12 + j, none⟩ = some u) (hk : a.okI w) (hw : ansW a ≤ 1073741824) (hnn : n ≤ 1099511627776) (hc : 7 ≤ a.code) (hc2 : a.code ≤ 7) (hrem : 1000000 ≤ a.rem) :
    Calls Try.prog 24 #[.slice (some ⟨g, 0, none⟩) n cap, .int .i64 i, .pointer (some ⟨b, o12, none⟩)] w fun e w' => Reads l r n i w e w' := by
  have HN : Hid (l.length = n) := hn
  have HT : Hid (Txt w g l) := ht
  have hcode := hk.code
  have hd1 : l.drop i = [a.code.toUInt8] ++ (encRest a ++ r) := by rw [hd]; rfl
  have h2 := drop_len hd1 (by simp)
  rw [hn] at h2
  have h2' : i + 1 ≤ n := h2
  have c0 : w.cell? ⟨g, i, none⟩ = some (.int .u8 a.code) := by
    have := ht i _ (drop_at hd1 0 (by simp))
    rw [Nat.zero_add] at this
    rw [this]
    simp
    omega
  have hbw : b < w.heap.size := World.block_lt_of_cell? w _ (hx 0 _ rfl)
  have HX : Hid (∀ wx, Below w.heap.size w wx → ∀ j u, (inCells a)[j]? = some u → wx.cell? ⟨b, o12 + j, none⟩ = some u) := fun wx hb j u hu => (hb.cell (p := ⟨b, o12 + j, none⟩) hbw).trans (hx j u hu)
  have x0 : w.cell? ⟨b, o12, none⟩ = some (.int .u8 a.code) := hx 0 _ rfl
  have HD1 : Hid (l.drop (i + 1) = encRest a ++ r) := drop_more hd1
  have gd1 : decide ((i : Int) < 0) = false := decide_eq_false (by omega)
  have gd2 : decide (n ≤ i) = false := decide_eq_false (by omega)
  have i1 : (i : Int) < (n : Int) := by omega
  have i0 : (0 : Int) ≤ (i : Int) := by omega
  obtain ⟨ao3, cap3, hv3, -⟩ := hk.val
  obtain ⟨ao6, cap6, hv6, -⟩ := hk.ents
  obtain ⟨ao11, cap11, hv11, -⟩ := hk.keys
  have H3 : Hid (a.vv = .slice ao3 a.val.length cap3) := hv3
  have H6 : Hid (a.ev = .slice ao6 a.ents.length cap6) := hv6
  have H11 : Hid (a.kv = .slice ao11 a.keys.length cap11) := hv11
  clear hx ht hd hd1 hn h2 hv3 hv6 hv11
  simp only [ansW] at hw
  go_enter Try.func24, Try.ntmps24
  go_wp2_with fail
  go_quiet (fail)
  have hbq := below_drewN (Below.refl w.heap.size w) nq
  generalize w.drewN nq = w1 at hbq ⊢
  have HB1 : Hid (Below w.heap.size w w1) := hbq
  have y1 : w1.cell? ⟨b, o12, none⟩ = some (.int .u8 a.code) := HX.out w1 hbq 0 _ rfl
  clear hbq c0 x0 gd1 gd2
  have e0 : Hid (a.code = 7) := show a.code = 7 by omega
  have HDR : Hid (encRest a ++ r = Lib.uvarint a.rev ++ (Lib.uvarint a.lid ++ (Lib.uvarint a.ttl ++ (Lib.uvarint (msOf a.rem) ++ (flagB a.lmore ++ (Lib.uvarint a.keys.length ++ (a.keys.flatMap strB ++ r))))))) := by simp [Hid, encRest, encLease, e0.out]
  have hkl := keysW_len a.keys
  have httl := hk.ttl
  have hr1 := hk.rem1
  have hr2 := hk.rem2
  have hms := msOf_big a.rem hrem
  have HMS : Hid (((msOf a.rem : Nat) : Int) = a.rem / 1000000) := hms
  clear hms
  have d1x9 : w1.cell? ⟨b, o12 + 9, none⟩ = some (.int .i64 a.rem) := HX.out w1 HB1.out 9 _ rfl
  have d1x2 : w1.cell? ⟨b, o12 + 2, none⟩ = some (.int .u64 a.rev) := HX.out w1 HB1.out 2 _ rfl
  go_wp2_with fail
  refine (expUv_any w1 g n cap l (i + 1) a.rev (Lib.uvarint a.lid ++ (Lib.uvarint a.ttl ++ (Lib.uvarint (msOf a.rem) ++ (flagB a.lmore ++ (Lib.uvarint a.keys.length ++ (a.keys.flatMap strB ++ r)))))) HN.out (HT.out.later HB1.out) (HD1.out.trans HDR.out) (hk.rev) hnn _ (by omega) _ rfl).mono ?_
  rintro e w2 ⟨i2c, rfl, hdr, hle, hle2, hbel⟩
  have HB2 : Hid (Below w.heap.size w w2) := HB1.out.trans (hbel.mono HB1.out.size)
  have HD2 : Hid (l.drop i2c = Lib.uvarint a.lid ++ (Lib.uvarint a.ttl ++ (Lib.uvarint (msOf a.rem) ++ (flagB a.lmore ++ (Lib.uvarint a.keys.length ++ (a.keys.flatMap strB ++ r)))))) := hdr
  clear hdr hbel
  have d2x7 : w2.cell? ⟨b, o12 + 7, none⟩ = some (.int .u64 a.lid) := HX.out w2 HB2.out 7 _ rfl
  clear d1x9 d1x2
  go_wp2_with fail
  refine (expUv_any w2 g n cap l i2c a.lid (Lib.uvarint a.ttl ++ (Lib.uvarint (msOf a.rem) ++ (flagB a.lmore ++ (Lib.uvarint a.keys.length ++ (a.keys.flatMap strB ++ r))))) HN.out (HT.out.later HB2.out) (HD2.out) (hk.lid) hnn _ rfl _ rfl).mono ?_
  rintro e w3 ⟨i3c, rfl, hdr, hle, hle2, hbel⟩
  have HB3 : Hid (Below w.heap.size w w3) := HB2.out.trans (hbel.mono HB2.out.size)
  have HD3 : Hid (l.drop i3c = Lib.uvarint a.ttl ++ (Lib.uvarint (msOf a.rem) ++ (flagB a.lmore ++ (Lib.uvarint a.keys.length ++ (a.keys.flatMap strB ++ r))))) := hdr
  clear hdr hbel
  have d3x8 : w3.cell? ⟨b, o12 + 8, none⟩ = some (.int .u32 a.ttl) := HX.out w3 HB3.out 8 _ rfl
  go_wp2_with fail
  refine (expUv_any w3 g n cap l i3c a.ttl (Lib.uvarint (msOf a.rem) ++ (flagB a.lmore ++ (Lib.uvarint a.keys.length ++ (a.keys.flatMap strB ++ r)))) HN.out (HT.out.later HB3.out) (HD3.out) (by omega) hnn _ rfl _ rfl).mono ?_
  rintro e w4 ⟨i4c, rfl, hdr, hle, hle2, hbel⟩
  have HB4 : Hid (Below w.heap.size w w4) := HB3.out.trans (hbel.mono HB3.out.size)
  have HD4 : Hid (l.drop i4c = Lib.uvarint (msOf a.rem) ++ (flagB a.lmore ++ (Lib.uvarint a.keys.length ++ (a.keys.flatMap strB ++ r)))) := hdr
  clear hdr hbel
  go_wp2_with fail
  refine (expUv_any w4 g n cap l i4c (msOf a.rem) (flagB a.lmore ++ (Lib.uvarint a.keys.length ++ (a.keys.flatMap strB ++ r))) HN.out (HT.out.later HB4.out) (HD4.out) (msOf_lt _ hk.rem2) hnn _ rfl _ (by rw [HMS.out])).mono ?_
  rintro e w5 ⟨i5c, rfl, hdr, hle, hle2, hbel⟩
  have HB5 : Hid (Below w.heap.size w w5) := HB4.out.trans (hbel.mono HB4.out.size)
  have HD5 : Hid (l.drop i5c = flagB a.lmore ++ (Lib.uvarint a.keys.length ++ (a.keys.flatMap strB ++ r))) := hdr
  clear hdr hbel
  have d5x10 : w5.cell? ⟨b, o12 + 10, none⟩ = some (.bool a.lmore) := HX.out w5 HB5.out 10 _ rfl
  go_wp2_with fail
  refine (expFlag_at w5 g n cap l i5c a.lmore (Lib.uvarint a.keys.length ++ (a.keys.flatMap strB ++ r)) HN.out (HT.out.later HB5.out) HD5.out hnn _ rfl).mono ?_
  rintro e w6 ⟨i6c, rfl, hdr, hle, hle2, hbel⟩
  have HB6 : Hid (Below w.heap.size w w6) := HB5.out.trans (hbel.mono HB5.out.size)
  have HD6 : Hid (l.drop i6c = Lib.uvarint a.keys.length ++ (a.keys.flatMap strB ++ r)) := hdr
  clear hdr hbel
  have d6x11 : w6.cell? ⟨b, o12 + 11, none⟩ = some (.slice ao11 a.keys.length cap11) := (by rw [← H11.out]; exact HX.out w6 HB6.out 11 _ rfl)
  go_wp2_with fail
  refine (expUv_any w6 g n cap l i6c a.keys.length (a.keys.flatMap strB ++ r) HN.out (HT.out.later HB6.out) (HD6.out) (by omega) hnn _ rfl _ rfl).mono ?_
  rintro e w7 ⟨i7c, rfl, hdr, hle, hle2, hbel⟩
  have HB7 : Hid (Below w.heap.size w w7) := HB6.out.trans (hbel.mono HB6.out.size)
  have HD7 : Hid (l.drop i7c = a.keys.flatMap strB ++ r) := hdr
  clear hdr hbel
  have d7x11 : w7.cell? ⟨b, o12 + 11, none⟩ = some (.slice ao11 a.keys.length cap11) := (by rw [← H11.out]; exact HX.out w7 HB7.out 11 _ rfl)
  go_wp2_with fail
  clear d7x11
  go_loopw [1, 293] (fun c kv wr => ∃ (j i8 : Nat), j ≤ a.keys.length ∧ c = .int .i64 i8 ∧ kv = .int .i64 j ∧ i ≤ i8 ∧ i8 ≤ n ∧ Hid (l.drop i8 = (a.keys.drop j).flatMap strB ++ r) ∧ Hid (Below w.heap.size w wr)) (fun _ kv _ => a.keys.length - (intOf kv).toNat)
  case atStart => exact ⟨0, i7c, by omega, rfl, rfl, by omega, by omega, HD7, HB7⟩
  case round =>
    obtain ⟨j, i8c, hj, rfl, rfl, hi8, hi8n, HD8, HB8⟩ := hrel
    obtain ⟨w8, hw8⟩ : ∃ w8, w8 = wr := ⟨_, rfl⟩
    subst hw8
    by_cases hjl : j < a.keys.length
    case neg =>
      go_wp2_with fail
      go_ret2
      refine ⟨i8c, rfl, ?_, hi8, hi8n, HB8.out⟩
      have h := HD8.out
      rw [List.drop_of_length_le (l := a.keys) (i := j) (by omega)] at h
      simpa using h
    have d8x11 : w8.cell? ⟨b, o12 + 11, none⟩ = some (.slice ao11 a.keys.length cap11) := (by rw [← H11.out]; exact HX.out w8 HB8.out 11 _ rfl)
    obtain ⟨b9, off9, cap9, hv9, q91, q92, hcell9⟩ := hk.keys.elem (f := keyCells) (size := 1) (fun _ => rfl) (by omega) (by omega)
    rw [H11.out] at hv9
    simp only [Value.slice.injEq, true_and] at hv9
    obtain ⟨rfl, rfl⟩ := hv9
    have hsp := keysW_split a.keys j hjl
    have HDE : Hid (l.drop i8c = strB a.keys[j] ++ ((a.keys.drop (j + 1)).flatMap strB ++ r)) := by
      unfold Hid
      rw [HD8.out, List.drop_eq_getElem_cons hjl, List.flatMap_cons, List.append_assoc]
    have z0 : w8.cell? ⟨b9, off9 + j, none⟩ = some (.string a.keys[j]) := by
      have h := hcell9 j hjl 0 _ rfl
      rw [Nat.mul_one, Nat.add_zero] at h
      exact (HB8.out.cell (World.block_lt_of_cell? w _ h)).trans h
    clear hcell9 HD8
    generalize a.keys[j] = e at z0 hsp HDE
    go_wp2_with fail
    refine (expString_at w8 g n cap l i8c e ((a.keys.drop (j + 1)).flatMap strB ++ r) HN.out (HT.out.later HB8.out) HDE.out hnn _ rfl).mono ?_
    rintro e w9 ⟨i9c, rfl, hdr, hle, hle2, hbel⟩
    have HB9 : Hid (Below w.heap.size w w9) := HB8.out.trans (hbel.mono HB8.out.size)
    have HD9 : Hid (l.drop i9c = (a.keys.drop (j + 1)).flatMap strB ++ r) := hdr
    clear hdr hbel
    clear z0 d8x11
    go_wp2_with fail
    go_roundw
    case rel => exact ⟨j + 1, i9c, by omega, rfl, by go_num, by omega, by omega, HD9, HB9⟩
    case measure => simp [intOf]; omega

set_option maxHeartbeats 4000000 in
set_option maxRecDepth 20000 in
theorem check7b (w : World) (g n cap : Nat) (l : List UInt8) (i : Nat) (a : Ans) (r : List UInt8) (b o12 : Nat) (hn : l.length = n) (ht : Txt w g l) (hd : l.drop i = encAns a ++ r) (hx : ∀ j u, (inCells a)[j]? = some u → w.cell? ⟨b, o12 + j, none⟩ = some u) (hk : a.okI w) (hw : ansW a ≤ 1073741824) (hnn : n ≤ 1099511627776) (hc : 7 ≤ a.code) (hc2 : a.code ≤ 7) (hrem : a.rem < 1000000) :
    Calls Try.prog 24 #[.slice (some ⟨g, 0, none⟩) n cap, .int .i64 i, .pointer (some ⟨b, o12, none⟩)] w fun e w' => Reads l r n i w e w' := by
  have HN : Hid (l.length = n) := hn
  have HT : Hid (Txt w g l) := ht
  have hcode := hk.code
  have hd1 : l.drop i = [a.code.toUInt8] ++ (encRest a ++ r) := by rw [hd]; rfl
  have h2 := drop_len hd1 (by simp)
  rw [hn] at h2
  have h2' : i + 1 ≤ n := h2
  have c0 : w.cell? ⟨g, i, none⟩ = some (.int .u8 a.code) := by
    have := ht i _ (drop_at hd1 0 (by simp))
    rw [Nat.zero_add] at this
    rw [this]
    simp
    omega
  have hbw : b < w.heap.size := World.block_lt_of_cell? w _ (hx 0 _ rfl)
  have HX : Hid (∀ wx, Below w.heap.size w wx → ∀ j u, (inCells a)[j]? = some u → wx.cell? ⟨b, o12 + j, none⟩ = some u) := fun wx hb j u hu => (hb.cell (p := ⟨b, o12 + j, none⟩) hbw).trans (hx j u hu)
  have x0 : w.cell? ⟨b, o12, none⟩ = some (.int .u8 a.code) := hx 0 _ rfl
  have HD1 : Hid (l.drop (i + 1) = encRest a ++ r) := drop_more hd1
  have gd1 : decide ((i : Int) < 0) = false := decide_eq_false (by omega)
  have gd2 : decide (n ≤ i) = false := decide_eq_false (by omega)
  have i1 : (i : Int) < (n : Int) := by omega
  have i0 : (0 : Int) ≤ (i : Int) := by omega
  obtain ⟨ao3, cap3, hv3, -⟩ := hk.val
  obtain ⟨ao6, cap6, hv6, -⟩ := hk.ents
  obtain ⟨ao11, cap11, hv11, -⟩ := hk.keys
  have H3 : Hid (a.vv = .slice ao3 a.val.length cap3) := hv3
  have H6 : Hid (a.ev = .slice ao6 a.ents.length cap6) := hv6
  have H11 : Hid (a.kv = .slice ao11 a.keys.length cap11) := hv11
  clear hx ht hd hd1 hn h2 hv3 hv6 hv11
  simp only [ansW] at hw
  go_enter Try.func24, Try.ntmps24
  go_wp2_with fail
  go_quiet (fail)
  have hbq := below_drewN (Below.refl w.heap.size w) nq
  generalize w.drewN nq = w1 at hbq ⊢
  have HB1 : Hid (Below w.heap.size w w1) := hbq
  have y1 : w1.cell? ⟨b, o12, none⟩ = some (.int .u8 a.code) := HX.out w1 hbq 0 _ rfl
  clear hbq c0 x0 gd1 gd2
  have e0 : Hid (a.code = 7) := show a.code = 7 by omega
  have HDR : Hid (encRest a ++ r = Lib.uvarint a.rev ++ (Lib.uvarint a.lid ++ (Lib.uvarint a.ttl ++ (Lib.uvarint (msOf a.rem) ++ (flagB a.lmore ++ (Lib.uvarint a.keys.length ++ (a.keys.flatMap strB ++ r))))))) := by simp [Hid, encRest, encLease, e0.out]
  have hkl := keysW_len a.keys
  have httl := hk.ttl
  have hr1 := hk.rem1
  have hr2 := hk.rem2
  have HMS : Hid (msOf a.rem = 0) := msOf_small a.rem hrem
  have d1x9 : w1.cell? ⟨b, o12 + 9, none⟩ = some (.int .i64 a.rem) := HX.out w1 HB1.out 9 _ rfl
  have d1x2 : w1.cell? ⟨b, o12 + 2, none⟩ = some (.int .u64 a.rev) := HX.out w1 HB1.out 2 _ rfl
  go_wp2_with fail
  refine (expUv_any w1 g n cap l (i + 1) a.rev (Lib.uvarint a.lid ++ (Lib.uvarint a.ttl ++ (Lib.uvarint (msOf a.rem) ++ (flagB a.lmore ++ (Lib.uvarint a.keys.length ++ (a.keys.flatMap strB ++ r)))))) HN.out (HT.out.later HB1.out) (HD1.out.trans HDR.out) (hk.rev) hnn _ (by omega) _ rfl).mono ?_
  rintro e w2 ⟨i2c, rfl, hdr, hle, hle2, hbel⟩
  have HB2 : Hid (Below w.heap.size w w2) := HB1.out.trans (hbel.mono HB1.out.size)
  have HD2 : Hid (l.drop i2c = Lib.uvarint a.lid ++ (Lib.uvarint a.ttl ++ (Lib.uvarint (msOf a.rem) ++ (flagB a.lmore ++ (Lib.uvarint a.keys.length ++ (a.keys.flatMap strB ++ r)))))) := hdr
  clear hdr hbel
  have d2x7 : w2.cell? ⟨b, o12 + 7, none⟩ = some (.int .u64 a.lid) := HX.out w2 HB2.out 7 _ rfl
  clear d1x9 d1x2
  go_wp2_with fail
  refine (expUv_any w2 g n cap l i2c a.lid (Lib.uvarint a.ttl ++ (Lib.uvarint (msOf a.rem) ++ (flagB a.lmore ++ (Lib.uvarint a.keys.length ++ (a.keys.flatMap strB ++ r))))) HN.out (HT.out.later HB2.out) (HD2.out) (hk.lid) hnn _ rfl _ rfl).mono ?_
  rintro e w3 ⟨i3c, rfl, hdr, hle, hle2, hbel⟩
  have HB3 : Hid (Below w.heap.size w w3) := HB2.out.trans (hbel.mono HB2.out.size)
  have HD3 : Hid (l.drop i3c = Lib.uvarint a.ttl ++ (Lib.uvarint (msOf a.rem) ++ (flagB a.lmore ++ (Lib.uvarint a.keys.length ++ (a.keys.flatMap strB ++ r))))) := hdr
  clear hdr hbel
  have d3x8 : w3.cell? ⟨b, o12 + 8, none⟩ = some (.int .u32 a.ttl) := HX.out w3 HB3.out 8 _ rfl
  go_wp2_with fail
  refine (expUv_any w3 g n cap l i3c a.ttl (Lib.uvarint (msOf a.rem) ++ (flagB a.lmore ++ (Lib.uvarint a.keys.length ++ (a.keys.flatMap strB ++ r)))) HN.out (HT.out.later HB3.out) (HD3.out) (by omega) hnn _ rfl _ rfl).mono ?_
  rintro e w4 ⟨i4c, rfl, hdr, hle, hle2, hbel⟩
  have HB4 : Hid (Below w.heap.size w w4) := HB3.out.trans (hbel.mono HB3.out.size)
  have HD4 : Hid (l.drop i4c = Lib.uvarint (msOf a.rem) ++ (flagB a.lmore ++ (Lib.uvarint a.keys.length ++ (a.keys.flatMap strB ++ r)))) := hdr
  clear hdr hbel
  go_wp2_with fail
  refine (expUv_any w4 g n cap l i4c (msOf a.rem) (flagB a.lmore ++ (Lib.uvarint a.keys.length ++ (a.keys.flatMap strB ++ r))) HN.out (HT.out.later HB4.out) (HD4.out) (msOf_lt _ hk.rem2) hnn _ rfl _ (by rw [HMS.out]; rfl)).mono ?_
  rintro e w5 ⟨i5c, rfl, hdr, hle, hle2, hbel⟩
  have HB5 : Hid (Below w.heap.size w w5) := HB4.out.trans (hbel.mono HB4.out.size)
  have HD5 : Hid (l.drop i5c = flagB a.lmore ++ (Lib.uvarint a.keys.length ++ (a.keys.flatMap strB ++ r))) := hdr
  clear hdr hbel
  have d5x10 : w5.cell? ⟨b, o12 + 10, none⟩ = some (.bool a.lmore) := HX.out w5 HB5.out 10 _ rfl
  go_wp2_with fail
  refine (expFlag_at w5 g n cap l i5c a.lmore (Lib.uvarint a.keys.length ++ (a.keys.flatMap strB ++ r)) HN.out (HT.out.later HB5.out) HD5.out hnn _ rfl).mono ?_
  rintro e w6 ⟨i6c, rfl, hdr, hle, hle2, hbel⟩
  have HB6 : Hid (Below w.heap.size w w6) := HB5.out.trans (hbel.mono HB5.out.size)
  have HD6 : Hid (l.drop i6c = Lib.uvarint a.keys.length ++ (a.keys.flatMap strB ++ r)) := hdr
  clear hdr hbel
  have d6x11 : w6.cell? ⟨b, o12 + 11, none⟩ = some (.slice ao11 a.keys.length cap11) := (by rw [← H11.out]; exact HX.out w6 HB6.out 11 _ rfl)
  go_wp2_with fail
  refine (expUv_any w6 g n cap l i6c a.keys.length (a.keys.flatMap strB ++ r) HN.out (HT.out.later HB6.out) (HD6.out) (by omega) hnn _ rfl _ rfl).mono ?_
  rintro e w7 ⟨i7c, rfl, hdr, hle, hle2, hbel⟩
  have HB7 : Hid (Below w.heap.size w w7) := HB6.out.trans (hbel.mono HB6.out.size)
  have HD7 : Hid (l.drop i7c = a.keys.flatMap strB ++ r) := hdr
  clear hdr hbel
  have d7x11 : w7.cell? ⟨b, o12 + 11, none⟩ = some (.slice ao11 a.keys.length cap11) := (by rw [← H11.out]; exact HX.out w7 HB7.out 11 _ rfl)
  go_wp2_with fail
  clear d7x11
  go_loopw [1, 293] (fun c kv wr => ∃ (j i8 : Nat), j ≤ a.keys.length ∧ c = .int .i64 i8 ∧ kv = .int .i64 j ∧ i ≤ i8 ∧ i8 ≤ n ∧ Hid (l.drop i8 = (a.keys.drop j).flatMap strB ++ r) ∧ Hid (Below w.heap.size w wr)) (fun _ kv _ => a.keys.length - (intOf kv).toNat)
  case atStart => exact ⟨0, i7c, by omega, rfl, rfl, by omega, by omega, HD7, HB7⟩
  case round =>
    obtain ⟨j, i8c, hj, rfl, rfl, hi8, hi8n, HD8, HB8⟩ := hrel
    obtain ⟨w8, hw8⟩ : ∃ w8, w8 = wr := ⟨_, rfl⟩
    subst hw8
    by_cases hjl : j < a.keys.length
    case neg =>
      go_wp2_with fail
      go_ret2
      refine ⟨i8c, rfl, ?_, hi8, hi8n, HB8.out⟩
      have h := HD8.out
      rw [List.drop_of_length_le (l := a.keys) (i := j) (by omega)] at h
      simpa using h
    have d8x11 : w8.cell? ⟨b, o12 + 11, none⟩ = some (.slice ao11 a.keys.length cap11) := (by rw [← H11.out]; exact HX.out w8 HB8.out 11 _ rfl)
    obtain ⟨b9, off9, cap9, hv9, q91, q92, hcell9⟩ := hk.keys.elem (f := keyCells) (size := 1) (fun _ => rfl) (by omega) (by omega)
    rw [H11.out] at hv9
    simp only [Value.slice.injEq, true_and] at hv9
    obtain ⟨rfl, rfl⟩ := hv9
    have hsp := keysW_split a.keys j hjl
    have HDE : Hid (l.drop i8c = strB a.keys[j] ++ ((a.keys.drop (j + 1)).flatMap strB ++ r)) := by
      unfold Hid
      rw [HD8.out, List.drop_eq_getElem_cons hjl, List.flatMap_cons, List.append_assoc]
    have z0 : w8.cell? ⟨b9, off9 + j, none⟩ = some (.string a.keys[j]) := by
      have h := hcell9 j hjl 0 _ rfl
      rw [Nat.mul_one, Nat.add_zero] at h
      exact (HB8.out.cell (World.block_lt_of_cell? w _ h)).trans h
    clear hcell9 HD8
    generalize a.keys[j] = e at z0 hsp HDE
    go_wp2_with fail
    refine (expString_at w8 g n cap l i8c e ((a.keys.drop (j + 1)).flatMap strB ++ r) HN.out (HT.out.later HB8.out) HDE.out hnn _ rfl).mono ?_
    rintro e w9 ⟨i9c, rfl, hdr, hle, hle2, hbel⟩
    have HB9 : Hid (Below w.heap.size w w9) := HB8.out.trans (hbel.mono HB8.out.size)
    have HD9 : Hid (l.drop i9c = (a.keys.drop (j + 1)).flatMap strB ++ r) := hdr
    clear hdr hbel
    clear z0 d8x11
    go_wp2_with fail
    go_roundw
    case rel => exact ⟨j + 1, i9c, by omega, rfl, by go_num, by omega, by omega, HD9, HB9⟩
    case measure => simp [intOf]; omega
end Go.Proofs.Qxb6616714a
