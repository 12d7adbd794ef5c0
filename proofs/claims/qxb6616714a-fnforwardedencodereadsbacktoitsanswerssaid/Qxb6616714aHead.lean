import Derived.Test.Qxb6616714aUv
import Derived.Test.Qxb6616714aFwd
namespace Go.Proofs.Qxb6616714a
open Go.RowKit

theorem uv_at (w : World) (g o n cap : Nat) (l : List UInt8) (i x : Nat) (r : List UInt8) (hn : l.length = n) (hcell : ∀ j u, l[j]? = some u → w.cell? ⟨g, o + j, none⟩ = some (.int .u8 u.toNat)) (hd : l.drop i = Lib.uvarint x ++ r) (hx : x < 18446744073709551616) (hnn : n ≤ 1099511627776) (i' : Int) (hi : i' = (i : Int)) :
    Calls Try.prog 17 #[.slice (some ⟨g, o, none⟩) n cap, .int .i64 i'] w fun e w' => e = .returned (.tuple #[.int .u64 x, .int .i64 (i + (Lib.uvarint x).length : Nat), .bool true]) ∧ w' = w := by
  subst hi
  exact uv_any w g o n cap l i x r hn hcell hd hx hnn

set_option maxHeartbeats 1000000 in
set_option maxRecDepth 20000 in
theorem header_any (w : World) (g o n cap : Nat) (l : List UInt8) (x : Nat) (r : List UInt8) (hn : l.length = n) (hcell : ∀ j u, l[j]? = some u → w.cell? ⟨g, o + j, none⟩ = some (.int .u8 u.toNat)) (hl : l = 24 :: (Lib.uvarint x ++ r)) (hx : x ≤ 1099511627776) (hnn : n ≤ 1099511627776) :
    Calls Try.prog 26 #[.slice (some ⟨g, o, none⟩) n cap, .int .i64 x] w fun e w' => e = .returned (.tuple #[.int .i64 (1 + (Lib.uvarint x).length : Nat), .bool true]) ∧ w' = w := by
  have c0 : w.cell? ⟨g, o, none⟩ = some (.int .u8 24) := by
    have := hcell 0 24 (by rw [hl]; rfl)
    simpa using this
  have hpos : 1 ≤ n := by rw [← hn, hl]; simp
  have HN : Hid (l.length = n) := hn
  have HC : Hid (∀ j u, l[j]? = some u → w.cell? ⟨g, o + j, none⟩ = some (.int .u8 u.toNat)) := hcell
  have HL : Hid (l = 24 :: (Lib.uvarint x ++ r)) := hl
  clear hn hcell hl
  go_enter Try.func26, Try.ntmps26
  go_wp2_with (go_at_call 17; refine (uv_at w g o n cap l 1 x r HN.out HC.out (by rw [HL.out]; rfl) (by omega) hnn _ rfl).mono ?_; rintro e w1 ⟨rfl, rfl⟩)
  go_ret2
  exact ⟨rfl, rfl⟩
end Go.Proofs.Qxb6616714a
