import Derived.Test.Qxb6616714aMem
import Derived.Lib.Varint
namespace Go.Proofs.Qxb6616714a
open Go.RowKit

theorem wr64 (n : Int) (h₀ : 0 ≤ n) (h₁ : n < 2 ^ 64) : IntKind.u64.wrap n = n := by rw [IntKind.wrap_u64]; omega
theorem and127 (c : Nat) (h : c < 256) : bits .and .u8 (c : Int) 127 = ((c % 128 : Nat) : Int) := by
  have := bits_mask .u8 8 (by decide) wraps_u8 7 (by decide) (c : Int) (by omega) (by omega)
  simp only [show (2 : Int) ^ 7 = 128 from by decide] at this
  rw [show (128 : Int) - 1 = 127 from by decide] at this
  rw [this]
  omega
theorem join64 (s : Nat) (y x : Nat) (hy : y < 2 ^ s) (hy1 : y < 2 ^ 64) (hx : x % 2 ^ s = 0) (hx1 : x < 2 ^ 64) : bits .or .u64 (y : Int) (x : Int) = ((y + x : Nat) : Int) := by
  have h := bits_join .u64 64 (by decide) wr64 s (x : Int) (y : Int) (by omega) (by exact_mod_cast hx) (by exact_mod_cast hx1) (by omega) (by exact_mod_cast hy) (by exact_mod_cast hy1)
  rw [(bits_nat .u64 64 (by decide) wr64 x y hx1 hy1).2] at h
  rw [(bits_nat .u64 64 (by decide) wr64 y x hy1 hx1).2, Nat.or_comm, h]
  omega
theorem or_step (acc c k : Nat) (ha : acc < 2 ^ (7 * k)) (ha1 : acc < 2 ^ 64) (hc : c < 256) (hb : c % 128 * 2 ^ (7 * k) < 2 ^ 64) :
    bits BinOp.or IntKind.u64 (acc : Int) (IntKind.u64.wrap (IntKind.u64.wrap (bits BinOp.and IntKind.u8 (c : Int) 127) * 2 ^ (7 * k))) = ((acc + c % 128 * 2 ^ (7 * k) : Nat) : Int) := by
  rw [and127 c hc, wr64 ((c % 128 : Nat) : Int) (by omega) (by omega)]
  have e : (((c % 128 : Nat) : Int) * 2 ^ (7 * k)) = ((c % 128 * 2 ^ (7 * k) : Nat) : Int) := by push_cast; rfl
  rw [e, wr64 _ (by omega) (by exact_mod_cast hb)]
  exact join64 (7 * k) acc _ ha ha1 (by rw [Nat.mul_mod_left]) hb

theorem pow7 (k : Nat) : (2 : Nat) ^ (7 * (k + 1)) = 2 ^ (7 * k) * 128 := by rw [Nat.mul_succ, Nat.pow_add]
theorem mod7 (x k : Nat) : x % 2 ^ (7 * (k + 1)) = x % 2 ^ (7 * k) + x / 2 ^ (7 * k) % 128 * 2 ^ (7 * k) := by
  rw [pow7, Nat.mod_mul, Nat.mul_comm (2 ^ (7 * k))]
theorem div7 (x k : Nat) : x / 2 ^ (7 * (k + 1)) = x / 2 ^ (7 * k) / 128 := by rw [pow7, Nat.div_div_eq_div_mul]
theorem all7 (x k : Nat) (h : x / 2 ^ (7 * k) < 128) : x % 2 ^ (7 * k) + x / 2 ^ (7 * k) % 128 * 2 ^ (7 * k) = x := by
  rw [Nat.mod_eq_of_lt h, Nat.add_comm, Nat.mul_comm]; exact Nat.div_add_mod x _
theorem le7 (x k : Nat) : x / 2 ^ (7 * k) % 128 * 2 ^ (7 * k) ≤ x :=
  Nat.le_trans (Nat.mul_le_mul_right _ (Nat.mod_le _ _)) (Nat.div_mul_le_self _ _)
theorem head_small {c : UInt8} {t r : List UInt8} {y : Nat} (hy : y < 128) (h : c :: t = Lib.uvarint y ++ r) : c.toNat = y := by
  rw [Lib.uvarint_small hy] at h
  simp at h
  rw [h.1]
  simp
  omega
theorem head_big {c : UInt8} {t r : List UInt8} {y : Nat} (hy : 128 ≤ y) (h : c :: t = Lib.uvarint y ++ r) : c.toNat = y % 128 + 128 ∧ t = Lib.uvarint (y / 128) ++ r := by
  rw [Lib.uvarint_big hy] at h
  simp at h
  refine ⟨?_, h.2⟩
  rw [h.1]
  simp
  omega
theorem ret_uv {x y i j : Int} (h1 : x = y) (h2 : i = j) : Ending.returned (.tuple #[.int .u64 x, .int .i64 i, .bool true]) = .returned (.tuple #[.int .u64 y, .int .i64 j, .bool true]) := by rw [h1, h2]

set_option maxHeartbeats 1000000 in
set_option maxRecDepth 20000 in
theorem uv_any (w : World) (g o n cap : Nat) (l : List UInt8) (i x : Nat) (r : List UInt8) (hn : l.length = n) (hcell : ∀ j u, l[j]? = some u → w.cell? ⟨g, o + j, none⟩ = some (.int .u8 u.toNat)) (hd : l.drop i = Lib.uvarint x ++ r) (hx : x < 18446744073709551616) (hnn : n ≤ 1099511627776) :
    Calls Try.prog 17 #[.slice (some ⟨g, o, none⟩) n cap, .int .i64 i] w fun e w' => e = .returned (.tuple #[.int .u64 x, .int .i64 (i + (Lib.uvarint x).length : Nat), .bool true]) ∧ w' = w := by
  have HX : Hid (x < 18446744073709551616) := hx
  have HD : Hid (l.drop i = Lib.uvarint x ++ r) := hd
  have HC : Hid (∀ j u, l[j]? = some u → w.cell? ⟨g, o + j, none⟩ = some (.int .u8 u.toNat)) := hcell
  have HN : Hid (l.length = n) := hn
  have hil : i + (Lib.uvarint x).length ≤ n := by
    have h1 := congrArg List.length hd
    have := Lib.uvarint_pos x
    simp at h1
    omega
  clear hx hd hcell hn
  go_enter Try.func17, Try.ntmps17
  go_wp2
  go_loop [1, 7, 8, 9] (fun vi vv vs vk => ∃ k acc : Nat, vk = .int .i64 k ∧ vs = .int .u64 ((7 * k : Nat) : Int) ∧ vv = .int .u64 acc ∧ vi = .int .i64 ((i + k : Nat) : Int) ∧ k ≤ 9 ∧ i + k < n ∧ Hid (acc = x % 2 ^ (7 * k)) ∧ Hid (k = 0 ∨ 1 ≤ x / 2 ^ (7 * k)) ∧ Hid (l.drop (i + k) = Lib.uvarint (x / 2 ^ (7 * k)) ++ r) ∧ Hid (i + k + (Lib.uvarint (x / 2 ^ (7 * k))).length = i + (Lib.uvarint x).length)) (fun _ _ _ vk => 10 - (intOf vk).toNat)
  case atStart => exact ⟨0, 0, rfl, rfl, rfl, rfl, by omega, by have := Lib.uvarint_pos x; omega, by simp [Hid, Nat.mod_one], Or.inl rfl, by simpa [Hid] using HD, by simp [Hid]⟩
  case round =>
    obtain ⟨k, acc, rfl, rfl, rfl, rfl, hk, hik, hacc, hprev, hdr, hlen⟩ := hrel
    have hlk : i + k < l.length := by rw [HN.out]; exact hik
    have c0 := HC.out (i + k) _ (List.getElem?_eq_getElem hlk)
    have hd0 : Hid (l.drop (i + k) = l[i + k] :: l.drop (i + k + 1)) := List.drop_eq_getElem_cons hlk
    generalize l[i + k] = c at c0 hd0
    have hc256 := c.toNat_lt
    have hcc : Hid (c :: l.drop (i + k + 1) = Lib.uvarint (x / 2 ^ (7 * k)) ++ r) := hd0.out.symm.trans hdr.out
    have hor := fun hb => or_step acc c.toNat k (by rw [hacc.out]; exact Nat.mod_lt _ (Nat.two_pow_pos _)) (by rw [hacc.out]; have := Nat.mod_le x (2 ^ (7 * k)); have := HX.out; omega) hc256 hb
    have HOR := show Hid _ from hor
    clear hor
    by_cases hsm : x / 2 ^ (7 * k) < 128
    · have hce : Hid (c.toNat = x / 2 ^ (7 * k)) := head_small hsm hcc.out
      have hlt : c.toNat < 128 := by rw [hce.out]; exact hsm
      have hfin : Hid (bits BinOp.or IntKind.u64 (acc : Int) (IntKind.u64.wrap (IntKind.u64.wrap (bits BinOp.and IntKind.u8 (c.toNat : Int) 127) * 2 ^ (7 * k))) = (x : Int)) := by
        have h1 := all7 x k hsm
        rw [← hce.out, ← hacc.out] at h1
        have := HOR.out (by have := HX.out; omega)
        rw [h1] at this
        exact this
      have hl1 : Hid (i + k + 1 = i + (Lib.uvarint x).length) := by
        have h := hlen.out
        rw [Lib.uvarint_small hsm] at h
        exact h
      have hn1 : k = 0 ∨ 1 ≤ c.toNat := by rw [hce.out]; exact hprev.out
      have hk9 : k < 9 ∨ c.toNat ≤ 1 := by
        rw [hce.out]
        by_cases h9 : k = 9
        · subst h9
          right
          have := HX.out
          have e : (2 : Nat) ^ (7 * 9) = 9223372036854775808 := by decide
          rw [e]
          omega
        · left; omega
      clear hsm
      have hcs : k ≤ 0 ∨ (1 ≤ k ∧ k < 9 ∧ 1 ≤ c.toNat) ∨ (9 ≤ k ∧ 1 ≤ c.toNat ∧ c.toNat ≤ 1) := by omega
      clear hk9 hn1
      rcases hcs with h1 | ⟨h1, h2, h3⟩ | ⟨h1, h2, h3⟩
      · go_wp2
        go_ret3
        exact ⟨ret_uv hfin.out (by have := hl1.out; omega), rfl⟩
      · go_wp2
        go_ret3
        exact ⟨ret_uv hfin.out (by have := hl1.out; omega), rfl⟩
      · go_wp2
        go_ret3
        refine ⟨ret_uv ?_ (by have := hl1.out; omega), rfl⟩
        have h := hfin.out
        rw [show k = 9 by omega] at h
        exact h
    · obtain ⟨hce0, htl0⟩ := head_big (by omega) hcc.out
      have hce : Hid (c.toNat = x / 2 ^ (7 * k) % 128 + 128) := hce0
      have htl : Hid (l.drop (i + k + 1) = Lib.uvarint (x / 2 ^ (7 * k) / 128) ++ r) := htl0
      have hc1 : 128 ≤ c.toNat := by rw [hce0]; omega
      clear hce0 htl0
      have hk9 : k < 9 := by
        by_cases h9 : k = 9
        · subst h9
          exfalso
          have := HX.out
          have e : (2 : Nat) ^ (7 * 9) = 9223372036854775808 := by decide
          rw [e] at hsm
          omega
        · omega
      have hmod : Hid (c.toNat % 128 = x / 2 ^ (7 * k) % 128) := by unfold Hid; rw [hce.out]; omega
      have hstep : Hid (bits BinOp.or IntKind.u64 (acc : Int) (IntKind.u64.wrap (IntKind.u64.wrap (bits BinOp.and IntKind.u8 (c.toNat : Int) 127) * 2 ^ (7 * k))) = ((x % 2 ^ (7 * (k + 1)) : Nat) : Int)) := by
        have := HOR.out (by rw [hmod.out]; have := HX.out; have := le7 x k; omega)
        rw [hmod.out, hacc.out, ← mod7] at this
        rw [hacc.out]
        exact this
      have hbig : Hid (128 ≤ x / 2 ^ (7 * k)) := show 128 ≤ x / 2 ^ (7 * k) by omega
      have hlen2 : Hid (i + k + 1 + (Lib.uvarint (x / 2 ^ (7 * (k + 1)))).length = i + (Lib.uvarint x).length) := by
        have h := hlen.out
        rw [Lib.uvarint_big hbig.out] at h
        unfold Hid
        rw [div7, ← h]
        simp
        omega
      have hik2 : i + k + 1 < n := by
        have h := hlen2.out
        have := Lib.uvarint_pos (x / 2 ^ (7 * (k + 1)))
        omega
      clear hsm
      go_wp2
      go_round
      case rel =>
        refine ⟨k + 1, x % 2 ^ (7 * (k + 1)), by go_num, by go_num, by rw [hstep.out], by go_num, by omega, by omega, rfl, Or.inr ?_, ?_, ?_⟩
        · rw [div7]; have := hbig.out; omega
        · unfold Hid; rw [div7]; exact htl.out
        · exact hlen2.out
      case measure => simp [intOf]; omega
end Go.Proofs.Qxb6616714a
