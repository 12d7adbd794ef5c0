import Derived.Test.Qxb6616714aMem
import Derived.Lib.Varint
namespace Go.Proofs.Qxb6616714a
open Go.RowKit

set_option maxHeartbeats 400000 in
theorem flag_any (base : Nat) (v : Value) (l : List UInt8) (f : Bool) (w : World) (hb : Buf w base v l) (hB : base ≤ w.heap.size) (hl : l.length ≤ 1099511627776) :
    Calls Try.prog 63 #[v, .bool f] w fun e w' => ∃ v', e = .returned v' ∧ Buf w' base v' (l ++ [if f then 1 else 0]) ∧ App w v w' v' := by
  have H : Hid (Buf w base v l) := hb
  cases f
  · go_enter Try.func63, Try.ntmps63
    go_wp2_with (at_builtin; refine wpList_byte rfl _ _ rfl w base v l H.out hB hl _ 0 rfl _ rfl rfl rfl ?_; intro v' w' hb' ha)
    go_ret
    exact ⟨v', rfl, by assumption, by assumption⟩
  · go_enter Try.func63, Try.ntmps63
    go_wp2_with (at_builtin; refine wpList_byte rfl _ _ rfl w base v l H.out hB hl _ 1 rfl _ rfl rfl rfl ?_; intro v' w' hb' ha)
    go_ret
    exact ⟨v', rfl, by assumption, by assumption⟩

theorem or_byte (y : Nat) : bits BinOp.or IntKind.u8 ((y : Int) % 256) 128 = ((y % 128 + 128).toUInt8.toNat : Int) := by
  rw [Lib.u8_or128_any _ (by omega) (by omega)]
  simp
  omega
theorem small_byte (y : Nat) (h : y < 128) : (y : Int) = (y.toUInt8.toNat : Int) := by
  simp
  omega

set_option maxHeartbeats 400000 in
set_option maxRecDepth 20000 in
theorem uvarint_any (base : Nat) (v : Value) (l : List UInt8) (x : Nat) (w : World) (hb : Buf w base v l) (hB : base ≤ w.heap.size) (hl : l.length ≤ 549755813888) (hx : x < 18446744073709551616) :
    Calls Try.prog 55 #[v, .int .u64 x] w fun e w' => ∃ v', e = .returned v' ∧ Buf w' base v' (l ++ Lib.uvarint x) ∧ App w v w' v' := by
  have H : Hid (Buf w base v l) := hb
  clear hb
  go_enter Try.func55, Try.ntmps55
  go_wp2
  go_loopw [0, 1] (fun b n wr => ∃ (y : Nat) (d : List UInt8), n = .int .u64 y ∧ y ≤ x ∧ Hid (Buf wr base b (l ++ d)) ∧ Hid (d ++ Lib.uvarint y = Lib.uvarint x) ∧ Hid (App w v wr b)) (fun _ n _ => (intOf n).toNat)
  case atStart => exact ⟨x, [], rfl, by omega, by simpa [Hid] using H, rfl, App.refl _ _⟩
  case round =>
    obtain ⟨y, d, rfl, hy, hb, hd, ha⟩ := hrel
    have hB' : base ≤ wr.heap.size := Nat.le_trans hB (App.size ha.out)
    have hld : (l ++ d).length ≤ 1099511627776 := by
      have := Lib.uvarint_length64 hx
      rw [← hd.out] at this
      simp at this ⊢
      omega
    have HX : Hid (x < 18446744073709551616) := hx
    clear hx
    by_cases h128 : 128 ≤ y
    · go_wp2_with (at_builtin; refine wpList_byte rfl _ _ rfl wr base _ (l ++ d) hb.out hB' hld _ (y % 128 + 128).toUInt8 (or_byte y) _ rfl rfl rfl ?_; intro v' w' hb' ha')
      go_roundw
      case rel =>
        refine ⟨y / 128, d ++ [(y % 128 + 128).toUInt8], by go_num, by omega, ?_, ?_, ha.out.trans (by assumption)⟩
        · unfold Hid; rw [← List.append_assoc]; assumption
        · unfold Hid; rw [← hd.out, Lib.uvarint_big h128, List.append_assoc]; rfl
      case measure => simp [intOf]; omega
    · go_wp2_with (at_builtin; refine wpList_byte rfl _ _ rfl wr base _ (l ++ d) hb.out hB' hld _ y.toUInt8 (small_byte y (by omega)) _ rfl rfl rfl ?_; intro v' w' hb' ha')
      go_ret
      refine ⟨v', rfl, ?_, ?_⟩
      · rw [← hd.out, Lib.uvarint_small (by omega), ← List.append_assoc]
        assumption
      · exact ha.out.trans (by assumption)

set_option maxHeartbeats 400000 in
set_option maxRecDepth 20000 in
theorem bytes_any (base : Nat) (v : Value) (l : List UInt8) (u : Value) (m : List UInt8) (w : World) (hb : Buf w base v l) (hB : base ≤ w.heap.size) (hm : Rd w u m.length (byteCells m))
    (hap : ∀ k, u.ownBlock = some k → byteCells m ≠ [] → v.ownBlock ≠ some k) (hl : l.length + m.length ≤ 274877906944) :
    Calls Try.prog 64 #[v, u] w fun e w' => ∃ v', e = .returned v' ∧ Buf w' base v' (l ++ Lib.uvarint m.length ++ m) ∧ App w v w' v' := by
  have H : Hid (Buf w base v l) := hb
  have HM : Hid (Rd w u m.length (byteCells m)) := hm
  have HA : Hid (∀ k, u.ownBlock = some k → byteCells m ≠ [] → v.ownBlock ≠ some k) := hap
  have h10 := Lib.uvarint_length64 (x := m.length) (by omega)
  clear hb hap
  obtain ⟨ao, cap, rfl, g1, g2, g3, g4⟩ := hm
  clear g3 g4
  unfold maxLen at g2
  go_enter Try.func64, Try.ntmps64
  go_wp2_with (first
    | (go_at_call 55; refine (uvarint_any base v l m.length w H.out hB (by omega) (by omega)).mono ?_; rintro e w1 ⟨v1, rfl, hb1, ha1⟩; replace hb1 := show Hid _ from hb1; replace ha1 := show Hid _ from ha1)
    | (at_builtin; refine wpList_bytes rfl _ _ rfl _ base _ _ hb1.out (Nat.le_trans hB (App.size ha1.out)) _ m (HM.out.app ha1.out HA.out) (by simp; omega) rfl rfl ?_; intro v' w' hb' ha'))
  go_ret
  exact ⟨_, rfl, hb', App.trans ha1.out ha'⟩
end Go.Proofs.Qxb6616714a
