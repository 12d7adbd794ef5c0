import Derived.Test.Qxb6616714aRep
import Derived.Deep.DeepCutAuto
import Derived.Deep.DrawnRows
import Derived.Deep.RegionHeld3
namespace Go.Proofs.Qxb6616714a
open Go.RowKit Go.Maps

def ahead (id leader p : Nat) : Bool := decide (p < id) && decide (p ≠ leader)
def leadAns (id leader : Nat) (l : List Nat) (size timeout dur : Int) (f : Nat → List Nat) : Bool :=
  !(decide (leader = id)) && (Maj (l.length + 1) size && ((if leader = 0 then decide (timeout ≤ dur) else Maj (l.countP (backs f leader)) size) && !(l.any (ahead id leader))))

section
variable {w : World} {bl db id : Nat} {pv : Value} {size timeout : Int} {known : Bool} {lid : Nat} {s1 : Int} {n1 : Nat} {m : Value}

set_option maxHeartbeats 4000000 in
set_option maxRecDepth 20000 in
theorem lead_any (f : Nat → List Nat) (l : List Nat) (s : Int) (n : Nat) (hl : ∀ x ∈ l, x < 4294967296) (hp : Nums w pv l) (hm : MapAt w m f) (hlen : l.length ≤ 65536) (h : LeadAt w bl db id pv size timeout known lid s1 n1 m) (h1 : -9223372036854775808 ≤ size) (h2 : size ≤ 9223372036854775807)
    (hlid : lid < 4294967296) (hn : n < 1000000000) (hn1 : n1 < 1000000000) (hs1 : -20000000000 ≤ s) (hs2 : s ≤ 20000000000) (hs3 : -20000000000 ≤ s1) (hs4 : s1 ≤ 20000000000) :
    Calls Try.prog 33 #[.pointer (some ⟨bl, 0, none⟩), tm s n] w fun e w' => e = .returned (.bool (leadAns id (leaderOf known lid) l size timeout (sat64 ((s * 1000000000 + n) - (s1 * 1000000000 + n1))) f)) ∧ Below w.heap.size w w' := by
  unfold tm
  obtain ⟨w1, hw1⟩ : ∃ w1, w1 = w.alloc (.cells #[.int .u64 n, .int .i64 s, .pointer none] 69) := ⟨_, rfl⟩
  have HB1 : Below w.heap.size w w1 := by rw [hw1]; exact (Below.refl _ _).alloc (Nat.le_refl _) _
  have hsz1 : w1.heap.size = w.heap.size + 1 := by rw [hw1]; simp
  have x0 : w1.cell? ⟨w.heap.size, 0, none⟩ = some (.int .u64 n) := by rw [hw1]; go_simp
  have x1 : w1.cell? ⟨w.heap.size, 1, none⟩ = some (.int .i64 s) := by rw [hw1]; go_simp
  have x2 : w1.cell? ⟨w.heap.size, 2, none⟩ = some (.pointer none) := by rw [hw1]; go_simp
  have h' := h.later HB1
  have hp' := hp.later HB1
  have hm' := hm.later HB1
  have HLA : Hid (LeadAt w1 bl db id pv size timeout known lid s1 n1 m) := h'
  have HPL : Hid (Nums w1 pv l) := hp'
  have HM : Hid (MapAt w1 m f) := hm'
  have HL : Hid (∀ x ∈ l, x < 4294967296) := hl
  have HB : Hid (Below w.heap.size w w1) := HB1
  have hld : leaderOf known lid < 4294967296 := by unfold leaderOf; split <;> omega
  obtain ⟨ao, cap, rfl, g1, g2, g3, g4⟩ := hp'
  obtain ⟨b0, _, _, rfl, _, _⟩ := hm'
  obtain ⟨c0, c2, c3, c4, c8, c10, c11, c12, c13, c14, c15, det⟩ := h'
  clear c3 c10 c11 c15 g3 g4 hl h hp hm HB1
  unfold maxLen at g2
  have HA : Hid (∀ b : Bool, b = leadAns id (leaderOf known lid) l size timeout (sat64 ((s * 1000000000 + n) - (s1 * 1000000000 + n1))) f → leadAns id (leaderOf known lid) l size timeout (sat64 ((s * 1000000000 + n) - (s1 * 1000000000 + n1))) f = b) := fun b h => h.symm
  by_cases e1 : leaderOf known lid = id
  · have HR : Hid (leadAns id (leaderOf known lid) l size timeout (sat64 ((s * 1000000000 + n) - (s1 * 1000000000 + n1))) f = false) := by simp [Hid, leadAns, e1]
    have e1' : ((leaderOf known lid : Nat) : Int) = id := by omega
    clear HA e1
    go_enter Try.func33, Try.ntmps33
    go_wp2_with fail
    rw [← hw1]
    clear hw1
    go_wp2_with (go_at_call 50; refine (leader_any HLA.out).mono ?_; rintro e w2 ⟨rfl, hw2⟩; rw [hw2]; clear hw2 w2)
    go_ret
    exact ⟨by rw [HR.out]; rfl, HB.out⟩
  · have e1' : ((leaderOf known lid : Nat) : Int) ≠ id := by omega
    cases em : Maj (l.length + 1) size
    · have HR : Hid (leadAns id (leaderOf known lid) l size timeout (sat64 ((s * 1000000000 + n) - (s1 * 1000000000 + n1))) f = false) := by unfold Hid leadAns; rw [em]; simp
      clear HA e1
      go_enter Try.func33, Try.ntmps33
      go_wp2_with fail
      rw [← hw1]
      clear hw1
      go_wp2_with (first | (go_at_call 50; refine (leader_any HLA.out).mono ?_; rintro e w2 ⟨rfl, hw2⟩; rw [hw2]; clear hw2 w2) | (go_at_call 51; refine (hears_any l HL.out HPL.out hlen HLA.out h1 h2).mono ?_; rintro e w2 ⟨rfl, hw2⟩; rw [hw2, em]; clear hw2 w2))
      go_ret
      exact ⟨by rw [HR.out]; rfl, HB.out⟩
    · by_cases e2 : leaderOf known lid = 0
      · have e2' : ((leaderOf known lid : Nat) : Int) = 0 := by omega
        obtain ⟨D, hD⟩ : ∃ D, D = sat64 ((s * 1000000000 + n) - (s1 * 1000000000 + n1)) := ⟨_, rfl⟩
        rw [← hD] at HA
        rw [← hD]
        by_cases e3 : D < timeout
        · have HR : Hid (leadAns id (leaderOf known lid) l size timeout D f = false) := by
            unfold Hid leadAns
            rw [if_pos e2, decide_eq_false (by omega : ¬ timeout ≤ D)]
            simp
          have HD : Hid (D = sat64 ((s * 1000000000 + n) - (s1 * 1000000000 + n1))) := hD
          clear HA e1 e2 hD
          go_enter Try.func33, Try.ntmps33
          go_wp2_with fail
          rw [← hw1]
          clear hw1
          go_wp2_with (first | (go_at_call 50; refine (leader_any HLA.out).mono ?_; rintro e w2 ⟨rfl, hw2⟩; rw [hw2]; clear hw2 w2) | (go_at_call 51; refine (hears_any l HL.out HPL.out hlen HLA.out h1 h2).mono ?_; rintro e w2 ⟨rfl, hw2⟩; rw [hw2, em]; clear hw2 w2))
          go_region_held3 (fun w' => w'.cell? ⟨w.heap.size, 0, none⟩ = some (.int .u64 n) ∧ w'.cell? ⟨w.heap.size, 1, none⟩ = some (.int .i64 s) ∧ w'.cell? ⟨w.heap.size, 2, none⟩ = some (.pointer none) ∧ w'.cell? ⟨bl, 4, none⟩ = some (.int .i64 timeout) ∧ w'.cell? ⟨bl, 12, none⟩ = some (.int .u64 n1) ∧ w'.cell? ⟨bl, 13, none⟩ = some (.int .i64 s1) ∧ w'.cell? ⟨bl, 14, none⟩ = some (.pointer none)) (go_keep)
            (first | (go_at_call 52; refine (tsub_any _ s s1 n n1 hn hn1 hs1 hs2 hs3 hs4).mono ?_; rintro e w2 ⟨rfl, hb2⟩; rw [← HD.out]; have hB2 : Below w1.heap.size w1 w2 := Below.trans ((Below.refl _ _).drew) (hb2.mono (by simp)); have u0 := (hB2.cell (World.block_lt_of_cell? w1 _ x0)).trans x0; have u1 := (hB2.cell (World.block_lt_of_cell? w1 _ x1)).trans x1; have u2 := (hB2.cell (World.block_lt_of_cell? w1 _ x2)).trans x2; have v4 := (hB2.cell (World.block_lt_of_cell? w1 _ c4)).trans c4; have v12 := (hB2.cell (World.block_lt_of_cell? w1 _ c12)).trans c12; have v13 := (hB2.cell (World.block_lt_of_cell? w1 _ c13)).trans c13; have v14 := (hB2.cell (World.block_lt_of_cell? w1 _ c14)).trans c14; replace hB2 : Hid (Below w1.heap.size w1 w2) := hB2; clear hb2))
          have HB2 : Hid (Below w.heap.size w w2) := HB.out.trans (hB2.out.mono HB.out.size)
          clear u0 u1 u2 v4 v12 v13 v14 x0 x1 x2
          go_wp2_with fail
          go_ret
          exact ⟨by rw [HR.out]; rfl, HB2.out⟩
        · have HFIN : Hid (l.any (ahead id (leaderOf known lid)) = false → leadAns id (leaderOf known lid) l size timeout D f = true) := by
            intro h
            unfold leadAns
            rw [if_pos e2, decide_eq_true (by omega : timeout ≤ D), h, em, decide_eq_false e1]
            rfl
          have HFAL : Hid (l.any (ahead id (leaderOf known lid)) = true → leadAns id (leaderOf known lid) l size timeout D f = false) := by
            intro h
            unfold leadAns
            rw [h]
            simp
          have HD : Hid (D = sat64 ((s * 1000000000 + n) - (s1 * 1000000000 + n1))) := hD
          have E2 : Hid (leaderOf known lid = 0) := e2
          clear HA e1 e2 hD
          go_enter Try.func33, Try.ntmps33
          go_wp2_with fail
          rw [← hw1]
          clear hw1
          go_wp2_with (first | (go_at_call 50; refine (leader_any HLA.out).mono ?_; rintro e w2 ⟨rfl, hw2⟩; rw [hw2]; clear hw2 w2) | (go_at_call 51; refine (hears_any l HL.out HPL.out hlen HLA.out h1 h2).mono ?_; rintro e w2 ⟨rfl, hw2⟩; rw [hw2, em]; clear hw2 w2))
          go_region_held3 (fun w' => w'.cell? ⟨w.heap.size, 0, none⟩ = some (.int .u64 n) ∧ w'.cell? ⟨w.heap.size, 1, none⟩ = some (.int .i64 s) ∧ w'.cell? ⟨w.heap.size, 2, none⟩ = some (.pointer none) ∧ w'.cell? ⟨bl, 4, none⟩ = some (.int .i64 timeout) ∧ w'.cell? ⟨bl, 12, none⟩ = some (.int .u64 n1) ∧ w'.cell? ⟨bl, 13, none⟩ = some (.int .i64 s1) ∧ w'.cell? ⟨bl, 14, none⟩ = some (.pointer none)) (go_keep)
            (first | (go_at_call 52; refine (tsub_any _ s s1 n n1 hn hn1 hs1 hs2 hs3 hs4).mono ?_; rintro e w2 ⟨rfl, hb2⟩; rw [← HD.out]; have hB2 : Below w1.heap.size w1 w2 := Below.trans ((Below.refl _ _).drew) (hb2.mono (by simp)); have u0 := (hB2.cell (World.block_lt_of_cell? w1 _ x0)).trans x0; have u1 := (hB2.cell (World.block_lt_of_cell? w1 _ x1)).trans x1; have u2 := (hB2.cell (World.block_lt_of_cell? w1 _ x2)).trans x2; have v4 := (hB2.cell (World.block_lt_of_cell? w1 _ c4)).trans c4; have v12 := (hB2.cell (World.block_lt_of_cell? w1 _ c12)).trans c12; have v13 := (hB2.cell (World.block_lt_of_cell? w1 _ c13)).trans c13; have v14 := (hB2.cell (World.block_lt_of_cell? w1 _ c14)).trans c14; replace hB2 : Hid (Below w1.heap.size w1 w2) := hB2; clear hb2))
          have HLA2 : Hid (LeadAt w2 bl db id (.slice ao l.length cap) size timeout known lid s1 n1 (.map (some b0))) := HLA.out.later hB2.out
          have HPL2 : Hid (Nums w2 (.slice ao l.length cap) l) := HPL.out.later hB2.out
          have HB2 : Hid (Below w.heap.size w w2) := HB.out.trans (hB2.out.mono HB.out.size)
          clear HLA HM hB2 c0 c2 c4 c8 c12 c13 c14 det x0 x1 x2 u0 u1 u2 v4 v12 v13 v14 HPL HB
          obtain ⟨c0, c2, c3, c4, c8, c10, c11, c12, c13, c14, c15, det⟩ := HLA2.out
          clear c3 c4 c10 c11 c12 c13 c14 c15
          have HPL := HPL2
          have HB := HB2
          clear HPL2 HB2 HLA2
          go_wp2_with fail
          go_loopw [51] (fun i wr => ∃ k : Nat, k ≤ l.length ∧ i = .int .i64 k ∧ Hid ((l.take k).any (ahead id (leaderOf known lid)) = false) ∧ wr = w2) (fun i _ => l.length - (intOf i).toNat)
          case atStart => exact ⟨0, by omega, by go_num, by simp [Hid], rfl⟩
          case round =>
            obtain ⟨k, hk, rfl, hno, rfl⟩ := hrel
            have e2 := E2.out
            by_cases hlt : k < l.length
            case neg =>
              obtain rfl : k = l.length := by have := E2.out; omega
              go_wp2
              go_ret
              have := hno.out
              rw [List.take_of_length_le (Nat.le_refl _)] at this
              exact ⟨by rw [HFIN.out this]; rfl, HB.out⟩
            obtain ⟨b, off, cap', hv, q1, q2, hcell⟩ := HPL.out.elem (by omega)
            simp only [Value.slice.injEq, true_and] at hv
            obtain ⟨rfl, rfl⟩ := hv
            have hc := hcell k hlt
            have hb := HL.out _ (List.getElem_mem hlt)
            clear hcell
            clear e2
            by_cases ha : ahead id (leaderOf known lid) l[k] = true
            · have ha1 : l[k] < id ∧ l[k] ≠ leaderOf known lid := by simpa [ahead] using ha
              have ha2 : (l[k] : Int) < id := by have := E2.out; omega
              have ha3 : (l[k] : Int) ≠ 0 := by have := E2.out; omega
              have hany : l.any (ahead id (leaderOf known lid)) = true := List.any_eq_true.2 ⟨l[k], List.getElem_mem hlt, ha⟩
              have HAN : Hid (l.any (ahead id (leaderOf known lid)) = true) := hany
              clear hany ha ha1
              go_wp2_with (go_at_call 54; refine (suspects_any _ db l[k] hb det).mono ?_; rintro e w2 ⟨rfl, hw2⟩; rw [hw2]; clear hw2 w2)
              go_ret
              exact ⟨by rw [HFAL.out HAN.out]; rfl, HB.out⟩
            · have hs : Hid ((l.take (k + 1)).any (ahead id (leaderOf known lid)) = false) := by
                have := hno.out
                unfold Hid
                rw [List.take_succ_eq_append_getElem hlt, List.any_append, this]
                simpa using ha
              by_cases hp1 : l[k] < id
              · have hp2 : l[k] = leaderOf known lid := by
                  simp only [ahead, Bool.and_eq_true, decide_eq_true_eq, not_and, Decidable.not_not] at ha
                  exact ha hp1
                have hp3 : (l[k] : Int) < id := by have := E2.out; omega
                have hp4 : (l[k] : Int) = 0 := by have := E2.out; omega
                clear ha hp1 hp2
                go_wp2_with fail
                go_roundw
                case rel => exact ⟨k + 1, by omega, by go_num, hs, trivial⟩
                case measure => simp [intOf]; omega
              · have hp3 : ¬ (l[k] : Int) < id := by have := E2.out; omega
                clear ha hp1
                go_wp2_with fail
                go_roundw
                case rel => exact ⟨k + 1, by omega, by go_num, hs, trivial⟩
                case measure => simp [intOf]; omega
      · have e2' : ((leaderOf known lid : Nat) : Int) ≠ 0 := by omega
        cases ec : Maj (l.countP (backs f (leaderOf known lid))) size
        · have HR : Hid (leadAns id (leaderOf known lid) l size timeout (sat64 ((s * 1000000000 + n) - (s1 * 1000000000 + n1))) f = false) := by
            unfold Hid leadAns
            rw [if_neg e2, ec]
            simp
          clear HA e1
          go_enter Try.func33, Try.ntmps33
          go_wp2_with fail
          rw [← hw1]
          clear hw1
          go_wp2_with (first | (go_at_call 50; refine (leader_any HLA.out).mono ?_; rintro e w2 ⟨rfl, hw2⟩; rw [hw2]; clear hw2 w2) | (go_at_call 51; refine (hears_any l HL.out HPL.out hlen HLA.out h1 h2).mono ?_; rintro e w2 ⟨rfl, hw2⟩; rw [hw2, em]; clear hw2 w2))
          go_quiet (fail)
          have HBq : Hid (Below w1.heap.size w1 (w1.drewN nq)) := below_drewN (Below.refl _ _) nq
          generalize w1.drewN nq = wq at HBq ⊢
          have HLA2 : Hid (LeadAt wq bl db id (.slice ao l.length cap) size timeout known lid s1 n1 (.map (some b0))) := HLA.out.later HBq.out
          have HPL2 : Hid (Nums wq (.slice ao l.length cap) l) := HPL.out.later HBq.out
          have HM2 : Hid (MapAt wq (.map (some b0)) f) := HM.out.later HBq.out
          have HB2 : Hid (Below w.heap.size w wq) := HB.out.trans (HBq.out.mono HB.out.size)
          clear HLA HM HBq c0 c2 c4 c8 c12 c13 c14 det x0 x1 x2 HPL HB
          obtain ⟨c0, c2, c3, c4, c8, c10, c11, c12, c13, c14, c15, det⟩ := HLA2.out
          clear c3 c4 c10 c11 c12 c13 c14 c15
          have HPL := HPL2
          have HB := HB2
          clear HPL2 HB2
          go_wp2_with (go_at_call 53; refine (suspected_any f l _ hld HL.out HPL.out HM2.out hlen HLA2.out h1 h2).mono ?_; rintro e w2 ⟨rfl, hw2⟩; rw [hw2, ec]; clear hw2 w2)
          go_ret
          exact ⟨by rw [HR.out]; rfl, HB.out⟩
        · have HFIN : Hid (l.any (ahead id (leaderOf known lid)) = false → leadAns id (leaderOf known lid) l size timeout (sat64 ((s * 1000000000 + n) - (s1 * 1000000000 + n1))) f = true) := by
            intro h
            unfold leadAns
            rw [if_neg e2, ec, h, em, decide_eq_false e1]
            rfl
          have HFAL : Hid (l.any (ahead id (leaderOf known lid)) = true → leadAns id (leaderOf known lid) l size timeout (sat64 ((s * 1000000000 + n) - (s1 * 1000000000 + n1))) f = false) := by
            intro h
            unfold leadAns
            rw [h]
            simp
          clear HA e1
          go_enter Try.func33, Try.ntmps33
          go_wp2_with fail
          rw [← hw1]
          clear hw1
          go_wp2_with (first | (go_at_call 50; refine (leader_any HLA.out).mono ?_; rintro e w2 ⟨rfl, hw2⟩; rw [hw2]; clear hw2 w2) | (go_at_call 51; refine (hears_any l HL.out HPL.out hlen HLA.out h1 h2).mono ?_; rintro e w2 ⟨rfl, hw2⟩; rw [hw2, em]; clear hw2 w2))
          go_quiet (fail)
          have HBq : Hid (Below w1.heap.size w1 (w1.drewN nq)) := below_drewN (Below.refl _ _) nq
          generalize w1.drewN nq = wq at HBq ⊢
          have HLA2 : Hid (LeadAt wq bl db id (.slice ao l.length cap) size timeout known lid s1 n1 (.map (some b0))) := HLA.out.later HBq.out
          have HPL2 : Hid (Nums wq (.slice ao l.length cap) l) := HPL.out.later HBq.out
          have HM2 : Hid (MapAt wq (.map (some b0)) f) := HM.out.later HBq.out
          have HB2 : Hid (Below w.heap.size w wq) := HB.out.trans (HBq.out.mono HB.out.size)
          clear HLA HM HBq c0 c2 c4 c8 c12 c13 c14 det x0 x1 x2 HPL HB
          obtain ⟨c0, c2, c3, c4, c8, c10, c11, c12, c13, c14, c15, det⟩ := HLA2.out
          clear c3 c4 c10 c11 c12 c13 c14 c15
          have HPL := HPL2
          have HB := HB2
          clear HPL2 HB2
          go_wp2_with (go_at_call 53; refine (suspected_any f l _ hld HL.out HPL.out HM2.out hlen HLA2.out h1 h2).mono ?_; rintro e w2 ⟨rfl, hw2⟩; rw [hw2, ec]; clear hw2 w2)
          go_loopw [51] (fun i wr => ∃ k : Nat, k ≤ l.length ∧ i = .int .i64 k ∧ Hid ((l.take k).any (ahead id (leaderOf known lid)) = false) ∧ wr = wq) (fun i _ => l.length - (intOf i).toNat)
          case atStart => exact ⟨0, by omega, by go_num, by simp [Hid], rfl⟩
          case round =>
            obtain ⟨k, hk, rfl, hno, rfl⟩ := hrel
            by_cases hlt : k < l.length
            case neg =>
              obtain rfl : k = l.length := by omega
              go_wp2
              go_ret
              have := hno.out
              rw [List.take_of_length_le (Nat.le_refl _)] at this
              exact ⟨by rw [HFIN.out this]; rfl, HB.out⟩
            obtain ⟨b, off, cap', hv, q1, q2, hcell⟩ := HPL.out.elem (by omega)
            simp only [Value.slice.injEq, true_and] at hv
            obtain ⟨rfl, rfl⟩ := hv
            have hc := hcell k hlt
            have hb := HL.out _ (List.getElem_mem hlt)
            clear hcell
            by_cases ha : ahead id (leaderOf known lid) l[k] = true
            · have ha1 : l[k] < id ∧ l[k] ≠ leaderOf known lid := by simpa [ahead] using ha
              have ha2 : (l[k] : Int) < id := by omega
              have ha3 : (l[k] : Int) ≠ leaderOf known lid := by omega
              have hany : l.any (ahead id (leaderOf known lid)) = true := List.any_eq_true.2 ⟨l[k], List.getElem_mem hlt, ha⟩
              have HAN : Hid (l.any (ahead id (leaderOf known lid)) = true) := hany
              clear hany ha ha1
              go_wp2_with (go_at_call 54; refine (suspects_any _ db l[k] hb det).mono ?_; rintro e w2 ⟨rfl, hw2⟩; rw [hw2]; clear hw2 w2)
              go_ret
              exact ⟨by rw [HFAL.out HAN.out]; rfl, HB.out⟩
            · have hs : Hid ((l.take (k + 1)).any (ahead id (leaderOf known lid)) = false) := by
                have := hno.out
                unfold Hid
                rw [List.take_succ_eq_append_getElem hlt, List.any_append, this]
                simpa using ha
              by_cases hp1 : l[k] < id
              · have hp2 : l[k] = leaderOf known lid := by
                  simp only [ahead, Bool.and_eq_true, decide_eq_true_eq, not_and, Decidable.not_not] at ha
                  exact ha hp1
                have hp3 : (l[k] : Int) < id := by omega
                have hp4 : (l[k] : Int) = leaderOf known lid := by omega
                clear ha hp1 hp2
                go_wp2_with fail
                go_roundw
                case rel => exact ⟨k + 1, by omega, by go_num, hs, trivial⟩
                case measure => simp [intOf]; omega
              · have hp3 : ¬ (l[k] : Int) < id := by omega
                clear ha hp1
                go_wp2_with fail
                go_roundw
                case rel => exact ⟨k + 1, by omega, by go_num, hs, trivial⟩
                case measure => simp [intOf]; omega
end
end Go.Proofs.Qxb6616714a
