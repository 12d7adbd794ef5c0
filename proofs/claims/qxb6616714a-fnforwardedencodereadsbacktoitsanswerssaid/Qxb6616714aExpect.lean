import Derived.Test.Qxb6616714aHead
import Derived.Deep.QuietTactic
import Derived.BigQuiet
import Derived.WalkSmall
namespace Go.Proofs.Qxb6616714a
open Go.RowKit

/-- the text under the cursor's buffer -/
def Txt (w : World) (g : Nat) (l : List UInt8) : Prop := ∀ j u, l[j]? = some u → w.cell? ⟨g, 0 + j, none⟩ = some (.int .u8 u.toNat)
theorem Txt.later {w w' : World} {g : Nat} {l : List UInt8} (h : Txt w g l) (hb : Below w.heap.size w w') : Txt w' g l := fun j u hu =>
  (hb.cell (World.block_lt_of_cell? w _ (h j u hu))).trans (h j u hu)
/-- what a reader leaves: the cursor behind what it read -/
def Reads (l r : List UInt8) (n i : Nat) (w : World) (e : Ending) (w' : World) : Prop := ∃ i2 : Nat, e = .returned (.tuple #[.int .i64 i2, .bool true]) ∧ l.drop i2 = r ∧ i ≤ i2 ∧ i2 ≤ n ∧ Below w.heap.size w w'

theorem drop_more {l a r : List UInt8} {i : Nat} (h : l.drop i = a ++ r) : l.drop (i + a.length) = r := by
  rw [← List.drop_drop, h, List.drop_left]
theorem drop_at {l a r : List UInt8} {i : Nat} (h : l.drop i = a ++ r) (k : Nat) (hk : k < a.length) : l[i + k]? = some a[k] := by
  have : (l.drop i)[k]? = l[i + k]? := by rw [List.getElem?_drop]
  rw [← this, h, List.getElem?_append_left hk, List.getElem?_eq_getElem hk]
theorem drop_len {l a r : List UInt8} {i : Nat} (h : l.drop i = a ++ r) (hp : 0 < a.length) : i + a.length ≤ l.length := by
  have := congrArg List.length h
  simp at this
  omega

theorem Rd.byteAt {w : World} {ao : Option Addr} {n cap : Nat} {m : List UInt8} (h : Rd w (.slice ao n cap) n (byteCells m)) (h0 : 0 < m.length) :
    ∃ b off, ao = some ⟨b, off, none⟩ ∧ b < w.heap.size ∧ ∀ k (hk : k < m.length), w.cell? ⟨b, off + k, none⟩ = some (.int .u8 m[k].toNat) := by
  obtain ⟨ao', cap', hv, h1, h2, h3, h4⟩ := h
  simp at hv
  obtain ⟨rfl, rfl⟩ := hv
  cases ao with
  | none =>
    have := (h3 rfl).2.2
    simp [byteCells] at this
    rw [this] at h0
    simp at h0
  | some ad =>
    obtain ⟨b, off, spot⟩ := ad
    have hc : ∀ k (hk : k < m.length), w.cell? ((⟨b, off, spot⟩ : Addr).add k) = some (.int .u8 m[k].toNat) := fun k hk => h4 _ rfl k _ (by simp [byteCells, hk])
    have hsp : spot = none := by
      have := hc 0 h0
      cases spot with
      | none => rfl
      | some x => simp [Addr.add, World.cell?] at this; split at this <;> simp_all
    subst hsp
    have hc' : ∀ k (hk : k < m.length), w.cell? ⟨b, off + k, none⟩ = some (.int .u8 m[k].toNat) := fun k hk => by
      have := hc k hk
      rwa [show (⟨b, off, none⟩ : Addr).add k = ⟨b, off + k, none⟩ by unfold Addr.add; split <;> simp_all] at this
    exact ⟨b, off, rfl, World.block_lt_of_cell? w _ (hc' 0 h0), hc'⟩

theorem expUv_any (w : World) (g n cap : Nat) (l : List UInt8) (i x : Nat) (r : List UInt8) (hn : l.length = n) (ht : Txt w g l) (hd : l.drop i = Lib.uvarint x ++ r) (hx : x < 18446744073709551616) (hnn : n ≤ 1099511627776) (i' : Int) (hi : i' = (i : Int)) (x' : Int) (hx' : x' = (x : Int)) :
    Calls Try.prog 23 #[.slice (some ⟨g, 0, none⟩) n cap, .int .i64 i', .int .u64 x'] w fun e w' => Reads l r n i w e w' := by
  subst hx'
  have h1 := drop_more hd
  have h2 := drop_len hd (Lib.uvarint_pos x)
  rw [hn] at h2
  have HC := uv_at w g 0 n cap l i x r hn ht hd hx hnn i' hi
  clear ht hd hx hnn hn hi
  go_enter Try.func23, Try.ntmps23
  go_wp2_with (go_at_call 17; refine HC.mono ?_; rintro e w1 ⟨rfl, rfl⟩)
  go_ret2
  exact ⟨_, rfl, h1, by omega, h2, Below.refl _ _⟩

set_option maxHeartbeats 1000000 in
set_option maxRecDepth 20000 in
theorem expFlag_any (w : World) (g n cap : Nat) (l : List UInt8) (i : Nat) (f : Bool) (r : List UInt8) (hn : l.length = n) (ht : Txt w g l) (hd : l.drop i = flagB f ++ r) (hnn : n ≤ 1099511627776) :
    Calls Try.prog 42 #[.slice (some ⟨g, 0, none⟩) n cap, .int .i64 i, .bool f] w fun e w' => Reads l r n i w e w' := by
  have h1 := drop_more hd
  have h2 := drop_len hd (by simp [flagB])
  rw [hn] at h2
  have h3 := ht i _ (drop_at hd 0 (by simp [flagB]))
  rw [Nat.zero_add] at h3
  have H1 : Hid (l.drop (i + 1) = r) := h1
  have h2' : i + 1 ≤ n := h2
  have i1 : (i : Int) < (n : Int) := by omega
  have i0 : (0 : Int) ≤ (i : Int) := by omega
  clear ht hd hn h1 h2
  cases f
  · have c0 : w.cell? ⟨g, i, none⟩ = some (.int .u8 0) := h3
    clear h3
    go_enter Try.func42, Try.ntmps42
    go_wp2
    go_quiet (fail)
    go_wp2
    go_ret2
    exact ⟨i + 1, rfl, H1.out, by omega, h2', below_drewN (Below.refl _ _) nq⟩
  · have c0 : w.cell? ⟨g, i, none⟩ = some (.int .u8 1) := h3
    clear h3
    go_enter Try.func42, Try.ntmps42
    go_wp2
    go_quiet (fail)
    go_wp2
    go_ret2
    exact ⟨i + 1, rfl, H1.out, by omega, h2', below_drewN (Below.refl _ _) nq⟩

set_option maxHeartbeats 1000000 in
set_option maxRecDepth 20000 in
theorem expBytes_any (w : World) (g n cap : Nat) (l : List UInt8) (i : Nat) (u : Value) (m : List UInt8) (r : List UInt8) (hn : l.length = n) (ht : Txt w g l) (hd : l.drop i = bytesB m ++ r) (hu : Rd w u m.length (byteCells m)) (hnn : n ≤ 1099511627776) :
    Calls Try.prog 43 #[.slice (some ⟨g, 0, none⟩) n cap, .int .i64 i, u] w fun e w' => Reads l r n i w e w' := by
  have hd1 : l.drop i = Lib.uvarint m.length ++ (m ++ r) := by rw [hd, bytesB, List.append_assoc]
  have hd2 := drop_more hd1
  have hd3 := drop_more hd2
  have h2 := drop_len hd (by have := Lib.uvarint_pos m.length; simp [bytesB]; omega)
  rw [hn] at h2
  have h2' : i + (Lib.uvarint m.length).length + m.length ≤ n := by simp only [bytesB, List.length_append] at h2; omega
  have HC := uv_at w g 0 n cap l i m.length (m ++ r) hn ht hd1 (by omega) hnn i rfl
  have HD2 : Hid (∀ k (hk : k < m.length), l[i + (Lib.uvarint m.length).length + k]? = some m[k]) := fun k hk => drop_at hd2 k hk
  have HD3 : Hid (l.drop (i + (Lib.uvarint m.length).length + m.length) = r) := hd3
  have HT : Hid (Txt w g l) := ht
  have HU : Hid (Rd w u m.length (byteCells m)) := hu
  clear ht hd hd1 hd2 hd3 hn h2
  obtain ⟨ao, capu, rfl, g1, g2, g3, g4⟩ := hu
  clear g3 g4
  unfold maxLen at g2
  go_enter Try.func43, Try.ntmps43
  go_wp2_with (go_at_call 17; refine HC.mono ?_; rintro e w1 ⟨rfl, rfl⟩)
  clear HC
  generalize (Lib.uvarint m.length).length = ul at *
  go_loopw [11] (fun kv wr => ∃ k : Nat, k ≤ m.length ∧ kv = .int .i64 k ∧ Hid (Below w1.heap.size w1 wr)) (fun kv _ => m.length - (intOf kv).toNat)
  case atStart => exact ⟨0, by omega, rfl, Below.refl _ _⟩
  case round =>
    obtain ⟨k, hk, rfl, hbr⟩ := hrel
    by_cases hlt : k < m.length
    case pos =>
      obtain ⟨b, off, rfl, hb, hc⟩ := HU.out.byteAt (by omega)
      have z0 := HT.out _ _ (HD2.out k hlt)
      rw [Nat.zero_add] at z0
      have y0 : wr.cell? ⟨g, i + ul + k, none⟩ = some (.int .u8 m[k].toNat) := (hbr.out.cell (World.block_lt_of_cell? w1 _ z0)).trans z0
      have y1 : wr.cell? ⟨b, off + k, none⟩ = some (.int .u8 m[k].toNat) := (hbr.out.cell (p := ⟨b, off + k, none⟩) hb).trans (hc k hlt)
      clear z0 hc
      generalize m[k] = c at y0 y1
      have i1 : (k : Int) < (m.length : Int) := by omega
      have i0 : (0 : Int) ≤ (k : Int) := by omega
      have i2 : (i : Int) + (ul : Int) + (k : Int) < (n : Int) := by omega
      have i3 : (0 : Int) ≤ (i : Int) + (ul : Int) + (k : Int) := by omega
      go_wp2
      go_quiet (fail)
      have hbq := below_drewN hbr.out nq
      generalize wr.drewN nq = wq at hbq ⊢
      replace hbq : Hid (Below w1.heap.size w1 wq) := hbq
      clear y0 y1 i0 i1 i2 i3
      go_wp2
      go_roundw
      case rel => exact ⟨k + 1, by omega, by go_num, hbq⟩
      case measure => simp [intOf]; omega
    case neg =>
      go_wp2
      go_ret2
      exact ⟨i + ul + m.length, rfl, HD3.out, by omega, h2', hbr.out⟩

set_option maxHeartbeats 1000000 in
set_option maxRecDepth 20000 in
theorem expString_any (w : World) (g n cap : Nat) (l : List UInt8) (i : Nat) (s : ByteArray) (r : List UInt8) (hn : l.length = n) (ht : Txt w g l) (hd : l.drop i = strB s ++ r) (hnn : n ≤ 1099511627776) :
    Calls Try.prog 44 #[.slice (some ⟨g, 0, none⟩) n cap, .int .i64 i, .string s] w fun e w' => Reads l r n i w e w' := by
  have hd1 : l.drop i = Lib.uvarint s.size ++ (s.data.toList ++ r) := by rw [hd, strB, List.append_assoc]
  have hd2 := drop_more hd1
  have hd3 := drop_more hd2
  have hsz : s.data.toList.length = s.size := rfl
  rw [hsz] at hd3
  have h2 := drop_len hd (by have := Lib.uvarint_pos s.size; simp [strB]; omega)
  rw [hn] at h2
  have h2' : i + (Lib.uvarint s.size).length + s.size ≤ n := by simp only [strB, List.length_append, hsz] at h2; omega
  have HC := uv_at w g 0 n cap l i s.size (s.data.toList ++ r) hn ht hd1 (by omega) hnn i rfl
  have HD2 : Hid (∀ k (hk : k < s.size), l[i + (Lib.uvarint s.size).length + k]? = some s[k]) := fun k hk => drop_at hd2 k hk
  have HD3 : Hid (l.drop (i + (Lib.uvarint s.size).length + s.size) = r) := hd3
  have HT : Hid (Txt w g l) := ht
  clear ht hd hd1 hd2 hd3 hn h2 hsz
  go_enter Try.func44, Try.ntmps44
  go_wp2_with (go_at_call 17; refine HC.mono ?_; rintro e w1 ⟨rfl, rfl⟩)
  clear HC
  generalize (Lib.uvarint s.size).length = ul at *
  go_loopw [11] (fun kv wr => ∃ k : Nat, k ≤ s.size ∧ kv = .int .i64 k ∧ Hid (Below w1.heap.size w1 wr)) (fun kv _ => s.size - (intOf kv).toNat)
  case atStart => exact ⟨0, by omega, rfl, Below.refl _ _⟩
  case round =>
    obtain ⟨k, hk, rfl, hbr⟩ := hrel
    by_cases hlt : k < s.size
    case pos =>
      have z0 := HT.out _ _ (HD2.out k hlt)
      rw [Nat.zero_add] at z0
      have y0 : wr.cell? ⟨g, i + ul + k, none⟩ = some (.int .u8 s[k].toNat) := (hbr.out.cell (World.block_lt_of_cell? w1 _ z0)).trans z0
      clear z0
      have i1 : (k : Int) < (s.size : Int) := by omega
      have i0 : (0 : Int) ≤ (k : Int) := by omega
      have i2 : (i : Int) + (ul : Int) + (k : Int) < (n : Int) := by omega
      have i3 : (0 : Int) ≤ (i : Int) + (ul : Int) + (k : Int) := by omega
      go_wp2
      go_quiet (fail)
      have hbq := below_drewN hbr.out nq
      generalize wr.drewN nq = wq at hbq ⊢
      replace hbq : Hid (Below w1.heap.size w1 wq) := hbq
      clear y0 i2 i3
      go_wp2
      go_roundw
      case rel => exact ⟨k + 1, by omega, by go_num, hbq⟩
      case measure => simp [intOf]; omega
    case neg =>
      go_wp2
      go_ret2
      exact ⟨i + ul + s.size, rfl, HD3.out, by omega, h2', hbr.out⟩
end Go.Proofs.Qxb6616714a
