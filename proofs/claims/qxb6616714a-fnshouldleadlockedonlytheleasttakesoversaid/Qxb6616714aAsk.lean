import Derived.Test.Qxb6616714aLead
namespace Go.Proofs.Qxb6616714a
open Go.RowKit Go.Maps

set_option maxHeartbeats 4000000 in
set_option maxRecDepth 20000 in
theorem ask_any (w : World) (id : Nat) (pv : Value) (size timeout since now : Int) (known : Bool) (round lid : Nat) (m : Value) (f : Nat → List Nat) (l : List Nat)
    (hl : ∀ x ∈ l, x < 4294967296) (hp : Nums w pv l) (hm : MapAt w m f) (hlen : l.length ≤ 65536) (h1 : -9223372036854775808 ≤ size) (h2 : size ≤ 9223372036854775807) (hlid : lid < 4294967296)
    (h3 : -9223372036854775808 ≤ since) (h4 : since ≤ 9223372036854775807) (h5 : -9223372036854775808 ≤ now) (h6 : now ≤ 9223372036854775807) :
    Calls Try.prog 15 #[.int .u32 id, pv, .int .i64 size, .int .i64 timeout, .bool known, .int .u64 round, .int .u32 lid, .int .i64 since, m, .int .i64 now] w fun e w' =>
      e = .returned (.bool (leadAns id (leaderOf known lid) l size timeout (sat64 (now - since)) f)) ∧ Below w.heap.size w w' := by
  have HP : Hid (Nums w pv l) := hp
  have HM : Hid (MapAt w m f) := hm
  have HL : Hid (∀ x ∈ l, x < 4294967296) := hl
  obtain ⟨ao, cap, rfl, g1, g2, g3, g4⟩ := hp
  obtain ⟨b0, _, _, rfl, _, _⟩ := hm
  clear g3 g4 hl
  unfold maxLen at g2
  go_enter Try.func15, Try.ntmps15
  go_wp2_with fail
  refine (tadd_any _ 0 0 since (by omega) (by omega) (by omega) h3 h4).mono ?_
  rintro e w1 ⟨s1, n1, rfl, hn1, ht1, hb1⟩
  unfold tm
  have hd1 := (hb1.cell (p := ⟨w.heap.size, 8, none⟩) (by simp)).trans (show _ = some (Value.map none) by go_simp)
  have hbw1 : Below w.heap.size w w1 := Below.trans ((Below.refl _ _).alloc (Nat.le_refl _) _) (hb1.mono (by simp))
  have HBW1 : Hid (Below w.heap.size w w1) := hbw1
  have hlt1 : w.heap.size < w1.heap.size := by have := hb1.size; simp at this; omega
  have HT1 : Hid (s1 * 1000000000 + (n1 : Int) = 0 * 1000000000 + ((0 : Nat) : Int) + since) := ht1
  clear hb1 hbw1 ht1
  go_wp2_with fail
  refine (tadd_any _ 0 0 now (by omega) (by omega) (by omega) h5 h6).mono ?_
  rintro e w2 ⟨s2, n2, rfl, hn2, ht2, hb2⟩
  have HT2 : Hid (s2 * 1000000000 + (n2 : Int) = 0 * 1000000000 + ((0 : Nat) : Int) + now) := ht2
  have HLA : Hid (LeadAt w2 w1.heap.size w.heap.size id (.slice ao l.length cap) size timeout known lid s1 n1 (.map (some b0))) := by
    refine ⟨?_, ?_, ?_, ?_, ?_, ?_, ?_, ?_, ?_, ?_, ?_, ?_⟩
    case refine_12 => exact (hb2.cell (by show w.heap.size < _; simp; omega)).trans (by go_simp)
    all_goals exact (hb2.cell (by show w1.heap.size < _; simp)).trans (by go_simp)
  have hbw2 : Below w1.heap.size w1 w2 := Below.trans ((Below.refl _ _).alloc (Nat.le_refl _) _) (hb2.mono (by simp))
  have hbW : Below w.heap.size w w2 := HBW1.out.trans (hbw2.mono HBW1.out.size)
  have HB2 : Hid (Below w.heap.size w w2) := hbW
  have HP2 : Hid (Nums w2 (.slice ao l.length cap) l) := HP.out.later hbW
  have HM2 : Hid (MapAt w2 (.map (some b0)) f) := HM.out.later hbW
  have t1 := HT1.out
  have t2 := HT2.out
  have HS : Hid (sat64 (now - since) = sat64 ((s2 * 1000000000 + n2) - (s1 * 1000000000 + n1))) := by
    unfold Hid
    congr 1
    omega
  have b1 : -20000000000 ≤ s1 := by omega
  have b2 : s1 ≤ 20000000000 := by omega
  have b3 : -20000000000 ≤ s2 := by omega
  have b4 : s2 ≤ 20000000000 := by omega
  clear hb2 hbw2 hbW ht2 t1 t2 hd1
  go_wp2_with (go_at_call 33; refine (lead_any f l s2 n2 HL.out HP2.out HM2.out hlen HLA.out h1 h2 hlid hn2 hn1 b3 b4 b1 b2).mono ?_; rintro e w3 ⟨rfl, hb3⟩; replace hb3 : Hid (Below w2.heap.size w2 w3) := hb3)
  go_ret
  exact ⟨by rw [HS.out]; rfl, HB2.out.trans (hb3.out.mono HB2.out.size)⟩
end Go.Proofs.Qxb6616714a
