import Derived.Test.Qxb6616714aExpect
import Derived.Test.Qxb6616714aSmall
namespace Go.Proofs.Qxb6616714a
open Go.RowKit
set_option linter.unusedVariables false

theorem expFlag_at (w : World) (g n cap : Nat) (l : List UInt8) (i : Nat) (f : Bool) (r : List UInt8) (hn : l.length = n) (ht : Txt w g l) (hd : l.drop i = flagB f ++ r) (hnn : n ≤ 1099511627776) (i' : Int) (hi : i' = (i : Int)) :
    Calls Try.prog 42 #[.slice (some ⟨g, 0, none⟩) n cap, .int .i64 i', .bool f] w fun e w' => Reads l r n i w e w' := by
  subst hi
  exact expFlag_any w g n cap l i f r hn ht hd hnn
theorem expBytes_at (w : World) (g n cap : Nat) (l : List UInt8) (i : Nat) (u : Value) (m : List UInt8) (r : List UInt8) (hn : l.length = n) (ht : Txt w g l) (hd : l.drop i = bytesB m ++ r) (hu : Rd w u m.length (byteCells m)) (hnn : n ≤ 1099511627776) (i' : Int) (hi : i' = (i : Int)) :
    Calls Try.prog 43 #[.slice (some ⟨g, 0, none⟩) n cap, .int .i64 i', u] w fun e w' => Reads l r n i w e w' := by
  subst hi
  exact expBytes_any w g n cap l i u m r hn ht hd hu hnn
theorem expString_at (w : World) (g n cap : Nat) (l : List UInt8) (i : Nat) (s : ByteArray) (r : List UInt8) (hn : l.length = n) (ht : Txt w g l) (hd : l.drop i = strB s ++ r) (hnn : n ≤ 1099511627776) (i' : Int) (hi : i' = (i : Int)) :
    Calls Try.prog 44 #[.slice (some ⟨g, 0, none⟩) n cap, .int .i64 i', .string s] w fun e w' => Reads l r n i w e w' := by
  subst hi
  exact expString_any w g n cap l i s r hn ht hd hnn
theorem msOf_big (r : Int) (h : 1000000 ≤ r) : ((msOf r : Nat) : Int) = r / 1000000 := by
  unfold msOf
  rw [Int.tdiv_eq_ediv_of_nonneg (by omega)]
  omega
theorem msOf_small (r : Int) (h : r < 1000000) : msOf r = 0 := by
  unfold msOf
  rcases Int.le_total 0 r with h0 | h0
  · rw [Int.tdiv_eq_ediv_of_nonneg h0]; omega
  · have := tdiv_le r h0
    omega

set_option maxHeartbeats 4000000 in
set_option maxRecDepth 20000 in
theorem check0 (w : World) (g n cap : Nat) (l : List UInt8) (i : Nat) (a : Ans) (r : List UInt8) (b o12 : Nat) (hn : l.length = n) (ht : Txt w g l) (hd : l.drop i = encAns a ++ r) (hx : ∀ j u, (inCells a)[j]? = some u → w.cell? ⟨b, o12 + j, none⟩ = some u) (hk : a.okI w) (hw : ansW a ≤ 1073741824) (hnn : n ≤ 1099511627776) (hc : a.code ≤ 0) :
    Calls Try.prog 24 #[.slice (some ⟨g, 0, none⟩) n cap, .int .i64 i, .pointer (some ⟨b, o12, none⟩)] w fun e w' => Reads l r n i w e w' := by
  have HN : Hid (l.length = n) := hn
  have HT : Hid (Txt w g l) := ht
  have hcode := hk.code
  have hd1 : l.drop i = [a.code.toUInt8] ++ (encRest a ++ r) := by rw [hd]; rfl
  have h2 := drop_len hd1 (by simp)
  rw [hn] at h2
  have h2' : i + 1 ≤ n := h2
  have c0 : w.cell? ⟨g, i, none⟩ = some (.int .u8 a.code) := by
    have := ht i _ (drop_at hd1 0 (by simp))
    rw [Nat.zero_add] at this
    rw [this]
    simp
    omega
  have hbw : b < w.heap.size := World.block_lt_of_cell? w _ (hx 0 _ rfl)
  have HX : Hid (∀ wx, Below w.heap.size w wx → ∀ j u, (inCells a)[j]? = some u → wx.cell? ⟨b, o12 + j, none⟩ = some u) := fun wx hb j u hu => (hb.cell (p := ⟨b, o12 + j, none⟩) hbw).trans (hx j u hu)
  have x0 : w.cell? ⟨b, o12, none⟩ = some (.int .u8 a.code) := hx 0 _ rfl
  have HD1 : Hid (l.drop (i + 1) = encRest a ++ r) := drop_more hd1
  have gd1 : decide ((i : Int) < 0) = false := decide_eq_false (by omega)
  have gd2 : decide (n ≤ i) = false := decide_eq_false (by omega)
  have i1 : (i : Int) < (n : Int) := by omega
  have i0 : (0 : Int) ≤ (i : Int) := by omega
  obtain ⟨ao3, cap3, hv3, -⟩ := hk.val
  obtain ⟨ao6, cap6, hv6, -⟩ := hk.ents
  obtain ⟨ao11, cap11, hv11, -⟩ := hk.keys
  have H3 : Hid (a.vv = .slice ao3 a.val.length cap3) := hv3
  have H6 : Hid (a.ev = .slice ao6 a.ents.length cap6) := hv6
  have H11 : Hid (a.kv = .slice ao11 a.keys.length cap11) := hv11
  clear hx ht hd hd1 hn h2 hv3 hv6 hv11
  simp only [ansW] at hw
  go_enter Try.func24, Try.ntmps24
  go_wp2_with fail
  go_quiet (fail)
  have hbq := below_drewN (Below.refl w.heap.size w) nq
  generalize w.drewN nq = w1 at hbq ⊢
  have HB1 : Hid (Below w.heap.size w w1) := hbq
  have y1 : w1.cell? ⟨b, o12, none⟩ = some (.int .u8 a.code) := HX.out w1 hbq 0 _ rfl
  clear hbq c0 x0 gd1 gd2
  have e0 : Hid (a.code = 0) := show a.code = 0 by omega
  have HDR : Hid (encRest a ++ r = flagB a.found ++ (Lib.uvarint a.rev ++ (bytesB a.val ++ r))) := by simp [Hid, encRest, e0.out]
  have d1x1 : w1.cell? ⟨b, o12 + 1, none⟩ = some (.bool a.found) := HX.out w1 HB1.out 1 _ rfl
  go_wp2_with fail
  refine (expFlag_at w1 g n cap l (i + 1) a.found (Lib.uvarint a.rev ++ (bytesB a.val ++ r)) HN.out (HT.out.later HB1.out) (HD1.out.trans HDR.out) hnn _ (by omega)).mono ?_
  rintro e w2 ⟨i2c, rfl, hdr, hle, hle2, hbel⟩
  have HB2 : Hid (Below w.heap.size w w2) := HB1.out.trans (hbel.mono HB1.out.size)
  have HD2 : Hid (l.drop i2c = Lib.uvarint a.rev ++ (bytesB a.val ++ r)) := hdr
  clear hdr hbel
  have d2x2 : w2.cell? ⟨b, o12 + 2, none⟩ = some (.int .u64 a.rev) := HX.out w2 HB2.out 2 _ rfl
  go_wp2_with fail
  refine (expUv_any w2 g n cap l i2c a.rev (bytesB a.val ++ r) HN.out (HT.out.later HB2.out) HD2.out hk.rev hnn _ rfl _ rfl).mono ?_
  rintro e w3 ⟨i3c, rfl, hdr, hle, hle2, hbel⟩
  have HB3 : Hid (Below w.heap.size w w3) := HB2.out.trans (hbel.mono HB2.out.size)
  have HD3 : Hid (l.drop i3c = bytesB a.val ++ r) := hdr
  clear hdr hbel
  have d3x3 : w3.cell? ⟨b, o12 + 3, none⟩ = some (.slice ao3 a.val.length cap3) := (by rw [← H3.out]; exact HX.out w3 HB3.out 3 _ rfl)
  have hval := hk.val
  rw [H3.out] at hval
  replace hval := hval.later HB3.out
  go_wp2_with fail
  refine (expBytes_at w3 g n cap l i3c _ a.val r HN.out (HT.out.later HB3.out) HD3.out hval hnn _ rfl).mono ?_
  rintro e w4 ⟨i4c, rfl, hdr, hle, hle2, hbel⟩
  have HB4 : Hid (Below w.heap.size w w4) := HB3.out.trans (hbel.mono HB3.out.size)
  have HD4 : Hid (l.drop i4c = r) := hdr
  clear hdr hbel
  go_wp2_with fail
  go_ret2
  exact ⟨i4c, rfl, HD4.out, by omega, by omega, HB4.out⟩

set_option maxHeartbeats 4000000 in
set_option maxRecDepth 20000 in
theorem check2 (w : World) (g n cap : Nat) (l : List UInt8) (i : Nat) (a : Ans) (r : List UInt8) (b o12 : Nat) (hn : l.length = n) (ht : Txt w g l) (hd : l.drop i = encAns a ++ r) (hx : ∀ j u, (inCells a)[j]? = some u → w.cell? ⟨b, o12 + j, none⟩ = some u) (hk : a.okI w) (hw : ansW a ≤ 1073741824) (hnn : n ≤ 1099511627776) (hc : 2 ≤ a.code) (hc2 : a.code ≤ 2) :
    Calls Try.prog 24 #[.slice (some ⟨g, 0, none⟩) n cap, .int .i64 i, .pointer (some ⟨b, o12, none⟩)] w fun e w' => Reads l r n i w e w' := by
  have HN : Hid (l.length = n) := hn
  have HT : Hid (Txt w g l) := ht
  have hcode := hk.code
  have hd1 : l.drop i = [a.code.toUInt8] ++ (encRest a ++ r) := by rw [hd]; rfl
  have h2 := drop_len hd1 (by simp)
  rw [hn] at h2
  have h2' : i + 1 ≤ n := h2
  have c0 : w.cell? ⟨g, i, none⟩ = some (.int .u8 a.code) := by
    have := ht i _ (drop_at hd1 0 (by simp))
    rw [Nat.zero_add] at this
    rw [this]
    simp
    omega
  have hbw : b < w.heap.size := World.block_lt_of_cell? w _ (hx 0 _ rfl)
  have HX : Hid (∀ wx, Below w.heap.size w wx → ∀ j u, (inCells a)[j]? = some u → wx.cell? ⟨b, o12 + j, none⟩ = some u) := fun wx hb j u hu => (hb.cell (p := ⟨b, o12 + j, none⟩) hbw).trans (hx j u hu)
  have x0 : w.cell? ⟨b, o12, none⟩ = some (.int .u8 a.code) := hx 0 _ rfl
  have HD1 : Hid (l.drop (i + 1) = encRest a ++ r) := drop_more hd1
  have gd1 : decide ((i : Int) < 0) = false := decide_eq_false (by omega)
  have gd2 : decide (n ≤ i) = false := decide_eq_false (by omega)
  have i1 : (i : Int) < (n : Int) := by omega
  have i0 : (0 : Int) ≤ (i : Int) := by omega
  obtain ⟨ao3, cap3, hv3, -⟩ := hk.val
  obtain ⟨ao6, cap6, hv6, -⟩ := hk.ents
  obtain ⟨ao11, cap11, hv11, -⟩ := hk.keys
  have H3 : Hid (a.vv = .slice ao3 a.val.length cap3) := hv3
  have H6 : Hid (a.ev = .slice ao6 a.ents.length cap6) := hv6
  have H11 : Hid (a.kv = .slice ao11 a.keys.length cap11) := hv11
  clear hx ht hd hd1 hn h2 hv3 hv6 hv11
  simp only [ansW] at hw
  go_enter Try.func24, Try.ntmps24
  go_wp2_with fail
  go_quiet (fail)
  have hbq := below_drewN (Below.refl w.heap.size w) nq
  generalize w.drewN nq = w1 at hbq ⊢
  have HB1 : Hid (Below w.heap.size w w1) := hbq
  have y1 : w1.cell? ⟨b, o12, none⟩ = some (.int .u8 a.code) := HX.out w1 hbq 0 _ rfl
  clear hbq c0 x0 gd1 gd2
  have e0 : Hid (a.code = 2) := show a.code = 2 by omega
  have HDR : Hid (encRest a ++ r = bytesB a.val ++ r) := by simp [Hid, encRest, e0.out]
  have d1x3 : w1.cell? ⟨b, o12 + 3, none⟩ = some (.slice ao3 a.val.length cap3) := (by rw [← H3.out]; exact HX.out w1 HB1.out 3 _ rfl)
  have hval := hk.val
  rw [H3.out] at hval
  replace hval := hval.later HB1.out
  go_wp2_with fail
  refine (expBytes_at w1 g n cap l (i + 1) _ a.val r HN.out (HT.out.later HB1.out) (HD1.out.trans HDR.out) hval hnn _ (by omega)).mono ?_
  rintro e w2 ⟨i2c, rfl, hdr, hle, hle2, hbel⟩
  have HB2 : Hid (Below w.heap.size w w2) := HB1.out.trans (hbel.mono HB1.out.size)
  have HD2 : Hid (l.drop i2c = r) := hdr
  clear hdr hbel
  go_wp2_with fail
  go_ret2
  exact ⟨i2c, rfl, HD2.out, by omega, by omega, HB2.out⟩

set_option maxHeartbeats 4000000 in
set_option maxRecDepth 20000 in
theorem check4 (w : World) (g n cap : Nat) (l : List UInt8) (i : Nat) (a : Ans) (r : List UInt8) (b o12 : Nat) (hn : l.length = n) (ht : Txt w g l) (hd : l.drop i = encAns a ++ r) (hx : ∀ j u, (inCells a)[j]? = some u → w.cell? ⟨b, o12 + j, none⟩ = some u) (hk : a.okI w) (hw : ansW a ≤ 1073741824) (hnn : n ≤ 1099511627776) (hc : 4 ≤ a.code) (hc2 : a.code ≤ 4) :
    Calls Try.prog 24 #[.slice (some ⟨g, 0, none⟩) n cap, .int .i64 i, .pointer (some ⟨b, o12, none⟩)] w fun e w' => Reads l r n i w e w' := by
  have HN : Hid (l.length = n) := hn
  have HT : Hid (Txt w g l) := ht
  have hcode := hk.code
  have hd1 : l.drop i = [a.code.toUInt8] ++ (encRest a ++ r) := by rw [hd]; rfl
  have h2 := drop_len hd1 (by simp)
  rw [hn] at h2
  have h2' : i + 1 ≤ n := h2
  have c0 : w.cell? ⟨g, i, none⟩ = some (.int .u8 a.code) := by
    have := ht i _ (drop_at hd1 0 (by simp))
    rw [Nat.zero_add] at this
    rw [this]
    simp
    omega
  have hbw : b < w.heap.size := World.block_lt_of_cell? w _ (hx 0 _ rfl)
  have HX : Hid (∀ wx, Below w.heap.size w wx → ∀ j u, (inCells a)[j]? = some u → wx.cell? ⟨b, o12 + j, none⟩ = some u) := fun wx hb j u hu => (hb.cell (p := ⟨b, o12 + j, none⟩) hbw).trans (hx j u hu)
  have x0 : w.cell? ⟨b, o12, none⟩ = some (.int .u8 a.code) := hx 0 _ rfl
  have HD1 : Hid (l.drop (i + 1) = encRest a ++ r) := drop_more hd1
  have gd1 : decide ((i : Int) < 0) = false := decide_eq_false (by omega)
  have gd2 : decide (n ≤ i) = false := decide_eq_false (by omega)
  have i1 : (i : Int) < (n : Int) := by omega
  have i0 : (0 : Int) ≤ (i : Int) := by omega
  obtain ⟨ao3, cap3, hv3, -⟩ := hk.val
  obtain ⟨ao6, cap6, hv6, -⟩ := hk.ents
  obtain ⟨ao11, cap11, hv11, -⟩ := hk.keys
  have H3 : Hid (a.vv = .slice ao3 a.val.length cap3) := hv3
  have H6 : Hid (a.ev = .slice ao6 a.ents.length cap6) := hv6
  have H11 : Hid (a.kv = .slice ao11 a.keys.length cap11) := hv11
  clear hx ht hd hd1 hn h2 hv3 hv6 hv11
  simp only [ansW] at hw
  go_enter Try.func24, Try.ntmps24
  go_wp2_with fail
  go_quiet (fail)
  have hbq := below_drewN (Below.refl w.heap.size w) nq
  generalize w.drewN nq = w1 at hbq ⊢
  have HB1 : Hid (Below w.heap.size w w1) := hbq
  have y1 : w1.cell? ⟨b, o12, none⟩ = some (.int .u8 a.code) := HX.out w1 hbq 0 _ rfl
  clear hbq c0 x0 gd1 gd2
  have e0 : Hid (a.code = 4) := show a.code = 4 by omega
  have HDR : Hid (encRest a ++ r = Lib.uvarint a.rev ++ r) := by simp [Hid, encRest, e0.out]
  have d1x2 : w1.cell? ⟨b, o12 + 2, none⟩ = some (.int .u64 a.rev) := HX.out w1 HB1.out 2 _ rfl
  go_wp2_with fail
  refine (expUv_any w1 g n cap l (i + 1) a.rev r HN.out (HT.out.later HB1.out) (HD1.out.trans HDR.out) hk.rev hnn _ (by omega) _ rfl).mono ?_
  rintro e w2 ⟨i2c, rfl, hdr, hle, hle2, hbel⟩
  have HB2 : Hid (Below w.heap.size w w2) := HB1.out.trans (hbel.mono HB1.out.size)
  have HD2 : Hid (l.drop i2c = r) := hdr
  clear hdr hbel
  go_wp2_with fail
  go_ret2
  exact ⟨i2c, rfl, HD2.out, by omega, by omega, HB2.out⟩

set_option maxHeartbeats 4000000 in
set_option maxRecDepth 20000 in
theorem check6 (w : World) (g n cap : Nat) (l : List UInt8) (i : Nat) (a : Ans) (r : List UInt8) (b o12 : Nat) (hn : l.length = n) (ht : Txt w g l) (hd : l.drop i = encAns a ++ r) (hx : ∀ j u, (inCells a)[j]? = some u → w.cell? ⟨b, o12 + j, none⟩ = some u) (hk : a.okI w) (hw : ansW a ≤ 1073741824) (hnn : n ≤ 1099511627776) (hc : 6 ≤ a.code) (hc2 : a.code ≤ 6) :
    Calls Try.prog 24 #[.slice (some ⟨g, 0, none⟩) n cap, .int .i64 i, .pointer (some ⟨b, o12, none⟩)] w fun e w' => Reads l r n i w e w' := by
  have HN : Hid (l.length = n) := hn
  have HT : Hid (Txt w g l) := ht
  have hcode := hk.code
  have hd1 : l.drop i = [a.code.toUInt8] ++ (encRest a ++ r) := by rw [hd]; rfl
  have h2 := drop_len hd1 (by simp)
  rw [hn] at h2
  have h2' : i + 1 ≤ n := h2
  have c0 : w.cell? ⟨g, i, none⟩ = some (.int .u8 a.code) := by
    have := ht i _ (drop_at hd1 0 (by simp))
    rw [Nat.zero_add] at this
    rw [this]
    simp
    omega
  have hbw : b < w.heap.size := World.block_lt_of_cell? w _ (hx 0 _ rfl)
  have HX : Hid (∀ wx, Below w.heap.size w wx → ∀ j u, (inCells a)[j]? = some u → wx.cell? ⟨b, o12 + j, none⟩ = some u) := fun wx hb j u hu => (hb.cell (p := ⟨b, o12 + j, none⟩) hbw).trans (hx j u hu)
  have x0 : w.cell? ⟨b, o12, none⟩ = some (.int .u8 a.code) := hx 0 _ rfl
  have HD1 : Hid (l.drop (i + 1) = encRest a ++ r) := drop_more hd1
  have gd1 : decide ((i : Int) < 0) = false := decide_eq_false (by omega)
  have gd2 : decide (n ≤ i) = false := decide_eq_false (by omega)
  have i1 : (i : Int) < (n : Int) := by omega
  have i0 : (0 : Int) ≤ (i : Int) := by omega
  obtain ⟨ao3, cap3, hv3, -⟩ := hk.val
  obtain ⟨ao6, cap6, hv6, -⟩ := hk.ents
  obtain ⟨ao11, cap11, hv11, -⟩ := hk.keys
  have H3 : Hid (a.vv = .slice ao3 a.val.length cap3) := hv3
  have H6 : Hid (a.ev = .slice ao6 a.ents.length cap6) := hv6
  have H11 : Hid (a.kv = .slice ao11 a.keys.length cap11) := hv11
  clear hx ht hd hd1 hn h2 hv3 hv6 hv11
  simp only [ansW] at hw
  go_enter Try.func24, Try.ntmps24
  go_wp2_with fail
  go_quiet (fail)
  have hbq := below_drewN (Below.refl w.heap.size w) nq
  generalize w.drewN nq = w1 at hbq ⊢
  have HB1 : Hid (Below w.heap.size w w1) := hbq
  have y1 : w1.cell? ⟨b, o12, none⟩ = some (.int .u8 a.code) := HX.out w1 hbq 0 _ rfl
  clear hbq c0 x0 gd1 gd2
  have e0 : Hid (a.code = 6) := show a.code = 6 by omega
  have HDR : Hid (encRest a ++ r = Lib.uvarint a.rev ++ r) := by simp [Hid, encRest, e0.out]
  have d1x2 : w1.cell? ⟨b, o12 + 2, none⟩ = some (.int .u64 a.rev) := HX.out w1 HB1.out 2 _ rfl
  go_wp2_with fail
  refine (expUv_any w1 g n cap l (i + 1) a.rev r HN.out (HT.out.later HB1.out) (HD1.out.trans HDR.out) hk.rev hnn _ (by omega) _ rfl).mono ?_
  rintro e w2 ⟨i2c, rfl, hdr, hle, hle2, hbel⟩
  have HB2 : Hid (Below w.heap.size w w2) := HB1.out.trans (hbel.mono HB1.out.size)
  have HD2 : Hid (l.drop i2c = r) := hdr
  clear hdr hbel
  go_wp2_with fail
  go_ret2
  exact ⟨i2c, rfl, HD2.out, by omega, by omega, HB2.out⟩

set_option maxHeartbeats 4000000 in
set_option maxRecDepth 20000 in
theorem check1 (w : World) (g n cap : Nat) (l : List UInt8) (i : Nat) (a : Ans) (r : List UInt8) (b o12 : Nat) (hn : l.length = n) (ht : Txt w g l) (hd : l.drop i = encAns a ++ r) (hx : ∀ j u, (inCells a)[j]? = some u → w.cell? ⟨b, o12 + j, none⟩ = some u) (hk : a.okI w) (hw : ansW a ≤ 1073741824) (hnn : n ≤ 1099511627776) (hc : 1 ≤ a.code) (hc2 : a.code ≤ 1) :
    Calls Try.prog 24 #[.slice (some ⟨g, 0, none⟩) n cap, .int .i64 i, .pointer (some ⟨b, o12, none⟩)] w fun e w' => Reads l r n i w e w' := by
  have HN : Hid (l.length = n) := hn
  have HT : Hid (Txt w g l) := ht
  have hcode := hk.code
  have hd1 : l.drop i = [a.code.toUInt8] ++ (encRest a ++ r) := by rw [hd]; rfl
  have h2 := drop_len hd1 (by simp)
  rw [hn] at h2
  have h2' : i + 1 ≤ n := h2
  have c0 : w.cell? ⟨g, i, none⟩ = some (.int .u8 a.code) := by
    have := ht i _ (drop_at hd1 0 (by simp))
    rw [Nat.zero_add] at this
    rw [this]
    simp
    omega
  have hbw : b < w.heap.size := World.block_lt_of_cell? w _ (hx 0 _ rfl)
  have HX : Hid (∀ wx, Below w.heap.size w wx → ∀ j u, (inCells a)[j]? = some u → wx.cell? ⟨b, o12 + j, none⟩ = some u) := fun wx hb j u hu => (hb.cell (p := ⟨b, o12 + j, none⟩) hbw).trans (hx j u hu)
  have x0 : w.cell? ⟨b, o12, none⟩ = some (.int .u8 a.code) := hx 0 _ rfl
  have HD1 : Hid (l.drop (i + 1) = encRest a ++ r) := drop_more hd1
  have gd1 : decide ((i : Int) < 0) = false := decide_eq_false (by omega)
  have gd2 : decide (n ≤ i) = false := decide_eq_false (by omega)
  have i1 : (i : Int) < (n : Int) := by omega
  have i0 : (0 : Int) ≤ (i : Int) := by omega
  obtain ⟨ao3, cap3, hv3, -⟩ := hk.val
  obtain ⟨ao6, cap6, hv6, -⟩ := hk.ents
  obtain ⟨ao11, cap11, hv11, -⟩ := hk.keys
  have H3 : Hid (a.vv = .slice ao3 a.val.length cap3) := hv3
  have H6 : Hid (a.ev = .slice ao6 a.ents.length cap6) := hv6
  have H11 : Hid (a.kv = .slice ao11 a.keys.length cap11) := hv11
  clear hx ht hd hd1 hn h2 hv3 hv6 hv11
  simp only [ansW] at hw
  go_enter Try.func24, Try.ntmps24
  go_wp2_with fail
  go_quiet (fail)
  have hbq := below_drewN (Below.refl w.heap.size w) nq
  generalize w.drewN nq = w1 at hbq ⊢
  have HB1 : Hid (Below w.heap.size w w1) := hbq
  have y1 : w1.cell? ⟨b, o12, none⟩ = some (.int .u8 a.code) := HX.out w1 hbq 0 _ rfl
  clear hbq c0 x0 gd1 gd2
  have e0 : Hid (a.code = 1) := show a.code = 1 by omega
  have HDR : Hid (encRest a ++ r = r) := by simp [Hid, encRest, e0.out]
  go_wp2_with fail
  go_ret2
  exact ⟨i + 1, rfl, HD1.out.trans HDR.out, by omega, by omega, HB1.out⟩

set_option maxHeartbeats 4000000 in
set_option maxRecDepth 20000 in
theorem check3 (w : World) (g n cap : Nat) (l : List UInt8) (i : Nat) (a : Ans) (r : List UInt8) (b o12 : Nat) (hn : l.length = n) (ht : Txt w g l) (hd : l.drop i = encAns a ++ r) (hx : ∀ j u, (inCells a)[j]? = some u → w.cell? ⟨b, o12 + j, none⟩ = some u) (hk : a.okI w) (hw : ansW a ≤ 1073741824) (hnn : n ≤ 1099511627776) (hc : 3 ≤ a.code) (hc2 : a.code ≤ 3) :
    Calls Try.prog 24 #[.slice (some ⟨g, 0, none⟩) n cap, .int .i64 i, .pointer (some ⟨b, o12, none⟩)] w fun e w' => Reads l r n i w e w' := by
  have HN : Hid (l.length = n) := hn
  have HT : Hid (Txt w g l) := ht
  have hcode := hk.code
  have hd1 : l.drop i = [a.code.toUInt8] ++ (encRest a ++ r) := by rw [hd]; rfl
  have h2 := drop_len hd1 (by simp)
  rw [hn] at h2
  have h2' : i + 1 ≤ n := h2
  have c0 : w.cell? ⟨g, i, none⟩ = some (.int .u8 a.code) := by
    have := ht i _ (drop_at hd1 0 (by simp))
    rw [Nat.zero_add] at this
    rw [this]
    simp
    omega
  have hbw : b < w.heap.size := World.block_lt_of_cell? w _ (hx 0 _ rfl)
  have HX : Hid (∀ wx, Below w.heap.size w wx → ∀ j u, (inCells a)[j]? = some u → wx.cell? ⟨b, o12 + j, none⟩ = some u) := fun wx hb j u hu => (hb.cell (p := ⟨b, o12 + j, none⟩) hbw).trans (hx j u hu)
  have x0 : w.cell? ⟨b, o12, none⟩ = some (.int .u8 a.code) := hx 0 _ rfl
  have HD1 : Hid (l.drop (i + 1) = encRest a ++ r) := drop_more hd1
  have gd1 : decide ((i : Int) < 0) = false := decide_eq_false (by omega)
  have gd2 : decide (n ≤ i) = false := decide_eq_false (by omega)
  have i1 : (i : Int) < (n : Int) := by omega
  have i0 : (0 : Int) ≤ (i : Int) := by omega
  obtain ⟨ao3, cap3, hv3, -⟩ := hk.val
  obtain ⟨ao6, cap6, hv6, -⟩ := hk.ents
  obtain ⟨ao11, cap11, hv11, -⟩ := hk.keys
  have H3 : Hid (a.vv = .slice ao3 a.val.length cap3) := hv3
  have H6 : Hid (a.ev = .slice ao6 a.ents.length cap6) := hv6
  have H11 : Hid (a.kv = .slice ao11 a.keys.length cap11) := hv11
  clear hx ht hd hd1 hn h2 hv3 hv6 hv11
  simp only [ansW] at hw
  go_enter Try.func24, Try.ntmps24
  go_wp2_with fail
  go_quiet (fail)
  have hbq := below_drewN (Below.refl w.heap.size w) nq
  generalize w.drewN nq = w1 at hbq ⊢
  have HB1 : Hid (Below w.heap.size w w1) := hbq
  have y1 : w1.cell? ⟨b, o12, none⟩ = some (.int .u8 a.code) := HX.out w1 hbq 0 _ rfl
  clear hbq c0 x0 gd1 gd2
  have e0 : Hid (a.code = 3) := show a.code = 3 by omega
  have HDR : Hid (encRest a ++ r = r) := by simp [Hid, encRest, e0.out]
  go_wp2_with fail
  go_ret2
  exact ⟨i + 1, rfl, HD1.out.trans HDR.out, by omega, by omega, HB1.out⟩

set_option maxHeartbeats 4000000 in
set_option maxRecDepth 20000 in
theorem check8 (w : World) (g n cap : Nat) (l : List UInt8) (i : Nat) (a : Ans) (r : List UInt8) (b o12 : Nat) (hn : l.length = n) (ht : Txt w g l) (hd : l.drop i = encAns a ++ r) (hx : ∀ j u, (inCells a)[j]? = some u → w.cell? ⟨b, o12 + j, none⟩ = some u) (hk : a.okI w) (hw : ansW a ≤ 1073741824) (hnn : n ≤ 1099511627776) (hc : 8 ≤ a.code) :
    Calls Try.prog 24 #[.slice (some ⟨g, 0, none⟩) n cap, .int .i64 i, .pointer (some ⟨b, o12, none⟩)] w fun e w' => Reads l r n i w e w' := by
  have HN : Hid (l.length = n) := hn
  have HT : Hid (Txt w g l) := ht
  have hcode := hk.code
  have hd1 : l.drop i = [a.code.toUInt8] ++ (encRest a ++ r) := by rw [hd]; rfl
  have h2 := drop_len hd1 (by simp)
  rw [hn] at h2
  have h2' : i + 1 ≤ n := h2
  have c0 : w.cell? ⟨g, i, none⟩ = some (.int .u8 a.code) := by
    have := ht i _ (drop_at hd1 0 (by simp))
    rw [Nat.zero_add] at this
    rw [this]
    simp
    omega
  have hbw : b < w.heap.size := World.block_lt_of_cell? w _ (hx 0 _ rfl)
  have HX : Hid (∀ wx, Below w.heap.size w wx → ∀ j u, (inCells a)[j]? = some u → wx.cell? ⟨b, o12 + j, none⟩ = some u) := fun wx hb j u hu => (hb.cell (p := ⟨b, o12 + j, none⟩) hbw).trans (hx j u hu)
  have x0 : w.cell? ⟨b, o12, none⟩ = some (.int .u8 a.code) := hx 0 _ rfl
  have HD1 : Hid (l.drop (i + 1) = encRest a ++ r) := drop_more hd1
  have gd1 : decide ((i : Int) < 0) = false := decide_eq_false (by omega)
  have gd2 : decide (n ≤ i) = false := decide_eq_false (by omega)
  have i1 : (i : Int) < (n : Int) := by omega
  have i0 : (0 : Int) ≤ (i : Int) := by omega
  obtain ⟨ao3, cap3, hv3, -⟩ := hk.val
  obtain ⟨ao6, cap6, hv6, -⟩ := hk.ents
  obtain ⟨ao11, cap11, hv11, -⟩ := hk.keys
  have H3 : Hid (a.vv = .slice ao3 a.val.length cap3) := hv3
  have H6 : Hid (a.ev = .slice ao6 a.ents.length cap6) := hv6
  have H11 : Hid (a.kv = .slice ao11 a.keys.length cap11) := hv11
  clear hx ht hd hd1 hn h2 hv3 hv6 hv11
  simp only [ansW] at hw
  go_enter Try.func24, Try.ntmps24
  go_wp2_with fail
  go_quiet (fail)
  have hbq := below_drewN (Below.refl w.heap.size w) nq
  generalize w.drewN nq = w1 at hbq ⊢
  have HB1 : Hid (Below w.heap.size w w1) := hbq
  have y1 : w1.cell? ⟨b, o12, none⟩ = some (.int .u8 a.code) := HX.out w1 hbq 0 _ rfl
  clear hbq c0 x0 gd1 gd2
  have e0 : Hid (¬ a.code = 0 ∧ ¬ a.code = 2 ∧ ¬ a.code = 4 ∧ ¬ a.code = 6 ∧ ¬ a.code = 5 ∧ ¬ a.code = 7) := by unfold Hid; omega
  have HDR : Hid (encRest a ++ r = r) := by simp [Hid, encRest, e0.out]
  go_wp2_with fail
  go_ret2
  exact ⟨i + 1, rfl, HD1.out.trans HDR.out, by omega, by omega, HB1.out⟩
end Go.Proofs.Qxb6616714a
