import Derived.Test.Qxb6616714aAsk
import Derived.Test.Qxb6616714aMk
import Derived.Test.Qxb6616714aPlain
import Derived.Deep.DeepCutAuto
import Derived.Deep.QuietTactic
import Derived.BigQuiet
import Derived.WalkSmall
namespace Go.Proofs.Qxb6616714a
open Go.RowKit Go.Maps

theorem info25 : (Try.prog.info? 25).map (fun i => (i.zero, i.size, i.bytes)) = some (some (.int .u32 0), 1, 4) := by kernel_rfl

def Own (w : World) (base : Nat) (v : Value) (l : List Nat) : Prop := w.ownsRow base 25 1 v l.length (l.flatMap u32c)

/-- AT THE OPERATION: 'append(peers, x)' -/
theorem wpList_num {ops : Array Oper} {rest : List Oper} {o : Oper} {a : Act} {Q : Exit → Act → World → Prop} (hgd : o.guard = none) (s x : Operand)
    (ho : o.op = .call { callee := .builtin .append, args := #[s, x], argTypes := #[22, 22] }) (w : World) (base : Nat) (v : Value) (l : List Nat) (hb : Own w base v l) (hB : base ≤ w.heap.size) (hl : l.length ≤ 1099511627776)
    (n : Int) (b : Nat) (hn : n = b) (H : Nat) (hH : H = w.heap.size) (hs : a.eval s = v) (hx : a.eval x = .slice (some ⟨H, 0, none⟩) 1 1)
    (h : ∀ v' w', Own w' base v' (l ++ [b]) → Below base w w' → wpList Try.prog ops Q rest (a.put o.dst v') w') :
    wpList Try.prog ops Q (o :: rest) a (w.alloc (.cells #[.int .u32 n] 25)) := by
  obtain ⟨i0, hi, hz0, hz1, hz2⟩ := info_parts info25
  subst hn
  subst hH
  refine wpList_append_lies _ hgd s x 22 ho base 25 i0 (.int .u32 0) 1 4 Try.underlying22 hi hz0 hz1 hz2 rfl (by omega) v l.length (l.flatMap u32c) hs (World.ownsRow.alloc hb _) ⟨w.heap.size, 0, none⟩ 1 1 [.int .u32 b] hx rfl (cell_one_new _ _ _) ?_ (by omega) ?_ ?_ ?_ _ rfl ?_
  · intro u hu
    simp at hu
    subst hu
    rfl
  · unfold maxLen; omega
  · omega
  · simp; omega
  · intro g cap w' hown hgrow hat _
    refine h _ w' ?_ ?_
    · unfold Own
      rw [List.flatMap_append, List.length_append]
      exact hown
    · refine Below.grown ((Below.refl _ _).alloc hB _) hgrow (by simp; omega) fun k hk => ?_
      exact (World.ownsRow.lt hb k hk).1

/-- no two of the first k members are alike, nor one of them and a later one -/
def D1 (ms : List Nat) (k : Nat) : Prop := ∀ a b, a < k → a < b → b < ms.length → ms.getD a 0 ≠ ms.getD b 0
def D2 (ms : List Nat) (k j : Nat) : Prop := ∀ b, k < b → b < j → ms.getD k 0 ≠ ms.getD b 0
theorem D1.step {ms : List Nat} {k : Nat} (h : D1 ms k) (h2 : D2 ms k ms.length) : D1 ms (k + 1) := fun a b ha hab hb => by
  by_cases e : a = k
  · subst e; exact h2 b hab hb
  · exact h a b (by omega) hab hb
theorem D2.step {ms : List Nat} {k j : Nat} (h : D2 ms k j) (hne : ms.getD k 0 ≠ ms.getD j 0) : D2 ms k (j + 1) := fun b h1 h2 => by
  by_cases e : b = j
  · subst e; exact hne
  · exact h b h1 (by omega)
theorem D1.all {ms : List Nat} (h : D1 ms ms.length) : ∀ a (ha : a < ms.length) b (hb : b < ms.length), a ≠ b → ms[a] ≠ ms[b] := fun a ha b hb hne => by
  have key : ∀ a b (ha : a < ms.length) (hb : b < ms.length), a < b → ms[a] ≠ ms[b] := fun a b ha hb hlt => by
    have := h a b ha hlt hb
    simpa [List.getD_eq_getElem?_getD, List.getElem?_eq_getElem ha, List.getElem?_eq_getElem hb] using this
  rcases Nat.lt_or_gt_of_ne hne with h1 | h1
  · exact key a b ha hb h1
  · exact fun e => key b a hb ha h1 e.symm

def TruePost (w : World) (e : Ending) (w' : World) : Prop := e = .returned (.bool true) ∧ Below w.heap.size w w'

set_option maxHeartbeats 8000000 in
set_option maxRecDepth 20000 in
theorem top_any (w : World) (mv rv : Value) (ms : List Nat) (rs : List Rep) (size timeout since now : Int) (known : Bool) (round lid : Nat)
    (hl : ∀ x ∈ ms, x < 4294967296) (hm : Nums w mv ms) (hr : Reps w rv rs) (h1 : -9223372036854775808 ≤ size) (h2 : size ≤ 9223372036854775807) (hlid : lid < 4294967296)
    (h3 : -9223372036854775808 ≤ since) (h4 : since ≤ 9223372036854775807) (h5 : -9223372036854775808 ≤ now) (h6 : now ≤ 9223372036854775807) :
    Calls Try.prog 3 #[mv, rv, .int .i64 size, .int .i64 timeout, .bool known, .int .u64 round, .int .u32 lid, .int .i64 since, .int .i64 now] w fun e w' => TruePost w e w' := by
  have HM : Hid (Nums w mv ms) := hm
  have HR : Hid (Reps w rv rs) := hr
  have HL : Hid (∀ x ∈ ms, x < 4294967296) := hl
  obtain ⟨hr1, hr2⟩ := hr
  obtain ⟨ao, cap, rfl, g1, g2, g3, g4⟩ := hm
  obtain ⟨ao', cap', rfl, k1, k2, k3, k4⟩ := hr1
  clear g3 g4 k3 k4 hr2 hl
  unfold maxLen at g2 k2
  obtain ⟨i0, hi, hz0, hz1, hz2⟩ := info_parts info25
  go_enter Try.func3, Try.ntmps3
  go_wp2_with fail
  refine (zzBytes_any _ _ _ ms rs _ _ _ _ _ _ _ HM.out HR.out).mono ?_
  rintro e w1 ⟨B, rfl, hw1⟩
  rw [hw1]
  clear hw1 w1
  cases B
  · go_wp2_with fail
    go_ret
    exact ⟨rfl, Below.refl _ _⟩
  by_cases c1 : ms.length ≤ 256
  case neg =>
    have c1' : 256 < ms.length := by omega
    clear c1
    go_wp2_with fail
    go_ret
    exact ⟨rfl, Below.refl _ _⟩
  go_wp2_with fail
  refine (zzBig_any _ _ _ ms rs HM.out HR.out).mono ?_
  rintro e w1 ⟨B, rfl, hw1⟩
  rw [hw1]
  clear hw1 w1
  cases B
  case true =>
    go_wp2_with fail
    go_ret
    exact ⟨rfl, Below.refl _ _⟩
  go_wp2_with fail
  go_loopw [54] (fun i wr => ∃ k : Nat, k ≤ ms.length ∧ i = .int .i64 k ∧ Hid (D1 ms k) ∧ Hid (Below w.heap.size w wr)) (fun i _ => ms.length - (intOf i).toNat)
  case atStart => exact ⟨0, by omega, by go_num, fun a b ha => by omega, Below.refl _ _⟩
  case round =>
    obtain ⟨k, hk, rfl, hd1, hbel⟩ := hrel
    by_cases hlt : k < ms.length
    case pos =>
      obtain ⟨b, off, cap'', hv, q1, q2, hcell⟩ := HM.out.elem (by omega)
      simp only [Value.slice.injEq, true_and] at hv
      obtain ⟨rfl, rfl⟩ := hv
      go_wp2_with fail
      obtain ⟨wo, hwo⟩ : ∃ wo, wo = wr := ⟨_, rfl⟩
      subst hwo
      go_loopw [20] (fun i wr => ∃ j : Nat, k < j ∧ j ≤ ms.length ∧ i = .int .i64 j ∧ Hid (D2 ms k j) ∧ Hid (Below w.heap.size w wr)) (fun i _ => ms.length - (intOf i).toNat)
      case atStart => exact ⟨k + 1, by omega, by omega, by go_num, fun b hb hb' => by omega, hbel⟩
      case round =>
        obtain ⟨j, hkj, hj, rfl, hd2, hbel2⟩ := hrel
        by_cases hjlt : j < ms.length
        case neg =>
          obtain rfl : j = ms.length := by omega
          go_wp2_with fail
          go_roundw
          case rel => exact ⟨k + 1, by omega, by go_num, hd1.out.step hd2.out, hbel2⟩
          case measure => simp [intOf]; omega
        have hc0 := hcell k hlt
        have hc1 := hcell j hjlt
        have x0 := (hbel2.out.cell (World.block_lt_of_cell? w _ hc0)).trans hc0
        have x1 := (hbel2.out.cell (World.block_lt_of_cell? w _ hc1)).trans hc1
        clear hc0 hc1
        by_cases he : ms[k] = ms[j]
        · have he' : (ms[k] : Int) = ms[j] := by omega
          clear hcell
          go_wp2_with fail
          go_quiet (fail)
          have hbq : Hid (Below w.heap.size w (wr.drewN nq)) := below_drewN hbel2.out nq
          generalize wr.drewN nq = wq at hbq ⊢
          go_wp2_with fail
          go_ret
          exact ⟨rfl, hbq.out⟩
        · have he' : (ms[k] : Int) ≠ ms[j] := by omega
          have hn2 : Hid (D2 ms k (j + 1)) := hd2.out.step (by simpa [List.getD_eq_getElem?_getD, List.getElem?_eq_getElem hlt, List.getElem?_eq_getElem hjlt] using he)
          clear hcell
          go_wp2_with fail
          go_quiet (fail)
          have hbq : Hid (Below w.heap.size w (wr.drewN nq)) := below_drewN hbel2.out nq
          generalize wr.drewN nq = wq at hbq ⊢
          go_wp2_with fail
          go_roundw
          case rel => exact ⟨j + 1, by omega, by omega, by go_num, hn2, hbq⟩
          case measure => simp [intOf]; omega
    obtain rfl : k = ms.length := by omega
    have hnd : Hid (∀ a (ha : a < ms.length) b (hb : b < ms.length), a ≠ b → ms[a] ≠ ms[b]) := D1.all hd1.out
    go_wp2_with fail
    refine (zzMap_any _ _ _ ms rs HL.out (by omega) (HM.out.later hbel.out) (HR.out.later hbel.out)).mono ?_
    rintro e w1 ⟨m, f, rfl, hma, hb1⟩
    have HB1 : Hid (Below w.heap.size w w1) := hbel.out.trans (hb1.mono hbel.out.size)
    have HMA : Hid (MapAt w1 m f) := hma
    have HM1 : Hid (Nums w1 (.slice ao ms.length cap) ms) := HM.out.later HB1.out
    obtain ⟨b0, _, _, rfl, _, _⟩ := hma
    obtain ⟨L, hL⟩ : ∃ L, leaderOf known lid = L := ⟨_, rfl⟩
    replace hL : Hid (leaderOf known lid = L) := hL
    clear hd1 hbel hb1 HM HR hk hlt
    go_upto_if 78 with fail
    go_cut [22] (fun x wc => x = .int .u32 L ∧ wc = w1)
    case first =>
      cases known
      · go_wp2_with fail
        go_meet
        case rel => exact ⟨by rw [← hL.out]; rfl, rfl⟩
      · go_wp2_with fail
        go_meet
        case rel => exact ⟨by rw [← hL.out]; rfl, rfl⟩
    case rest =>
      obtain ⟨rfl, hwc⟩ := hcut
      subst hwc
      go_wp2_with fail
      go_loopw [23, 24, 82] (fun z h i wr => ∃ (k : Nat) (hb : Bool) (lb : Nat), k ≤ ms.length ∧ i = .int .i64 k ∧ h = .bool hb ∧ z = .int .u32 lb ∧ Hid ((hb, lb) = leastOf L (ms.take k)) ∧ wr = wc) (fun _ _ i _ => ms.length - (intOf i).toNat)
      case atStart => exact ⟨0, false, 0, by omega, by go_num, rfl, rfl, by simp [Hid, leastOf], rfl⟩
      case round =>
        obtain ⟨k, hb, lb, hk, rfl, rfl, rfl, hst, rfl⟩ := hrel
        by_cases hlt : k < ms.length
        case pos =>
          obtain ⟨b, off, cap'', hv, q1, q2, hcell⟩ := HM1.out.elem (by omega)
          simp only [Value.slice.injEq, true_and] at hv
          obtain ⟨rfl, rfl⟩ := hv
          have x0 := hcell k hlt
          have hsn : Hid (leastOf L (ms.take (k + 1)) = leastStep L (hb, lb) ms[k]) := by
            unfold Hid
            rw [List.take_succ_eq_append_getElem hlt, leastOf_snoc, ← hst.out]
          clear hcell
          by_cases e1 : ms[k] = L
          · have e1' : (ms[k] : Int) = L := by omega
            have hn : Hid ((hb, lb) = leastOf L (ms.take (k + 1))) := by
              unfold Hid
              rw [hsn.out]
              unfold leastStep
              rw [if_neg (fun h => h.1 e1)]
            clear e1
            go_wp2_with fail
            go_roundw
            case rel => exact ⟨k + 1, hb, lb, by omega, by go_num, rfl, rfl, hn, trivial⟩
            case measure => simp [intOf]; omega
          · have e1' : (ms[k] : Int) ≠ L := by omega
            cases hb
            · have hn : Hid ((true, ms[k]) = leastOf L (ms.take (k + 1))) := by
                unfold Hid
                rw [hsn.out]
                unfold leastStep
                rw [if_pos ⟨e1, Or.inl rfl⟩]
              clear e1
              go_wp2_with fail
              go_roundw
              case rel => exact ⟨k + 1, true, ms[k], by omega, by go_num, rfl, rfl, hn, trivial⟩
              case measure => simp [intOf]; omega
            · by_cases e2 : ms[k] < lb
              · have e2' : (ms[k] : Int) < lb := by omega
                have hn : Hid ((true, ms[k]) = leastOf L (ms.take (k + 1))) := by
                  unfold Hid
                  rw [hsn.out]
                  unfold leastStep
                  rw [if_pos ⟨e1, Or.inr e2⟩]
                clear e1 e2
                go_wp2_with fail
                go_roundw
                case rel => exact ⟨k + 1, true, ms[k], by omega, by go_num, rfl, rfl, hn, trivial⟩
                case measure => simp [intOf]; omega
              · have e2' : ¬ (ms[k] : Int) < lb := by omega
                have hn : Hid ((true, lb) = leastOf L (ms.take (k + 1))) := by
                  unfold Hid
                  rw [hsn.out]
                  unfold leastStep
                  rw [if_neg (fun h => h.2.elim (by simp) e2)]
                clear e1 e2
                go_wp2_with fail
                go_roundw
                case rel => exact ⟨k + 1, true, lb, by omega, by go_num, rfl, rfl, hn, trivial⟩
                case measure => simp [intOf]; omega
        obtain rfl : k = ms.length := by omega
        have HST : Hid ((hb, lb) = leastOf L ms) := by
          have := hst.out
          rwa [List.take_of_length_le (Nat.le_refl _)] at this
        clear hst hk hlt
        go_upto_region 29 with fail
        go_cut [27] (fun c wd => c = .bool (hb && Maj ms.length size) ∧ wd = wr)
        case first =>
          cases hb
          · go_wp2_with fail
            go_meet
            case rel => exact ⟨rfl, rfl⟩
          · go_wp2_with (go_at_call 12; refine (zzMaj_any _ _ size h1 h2).mono ?_; rintro e w2 ⟨rfl, hw2⟩; rw [hw2]; clear hw2 w2)
            go_meet
            case rel => exact ⟨rfl, rfl⟩
        case rest =>
          obtain ⟨rfl, hwc⟩ := hcut
          subst hwc
          obtain ⟨cb, hcb⟩ : ∃ cb, (hb && Maj ms.length size) = cb := ⟨_, rfl⟩
          rw [hcb]
          replace hcb : Hid ((hb && Maj ms.length size) = cb) := hcb
          go_upto_if 108 with fail
          go_cut [27] (fun c wd => c = .bool (cond3 L ms size timeout (sat64 (now - since)) f) ∧ wd = wc)
          case first =>
            by_cases hz : L = 0
            · have hzb : ((L : Int) == 0) = true := by simp [hz]
              have HC : Hid (cond3 L ms size timeout (sat64 (now - since)) f = (cb && decide (timeout ≤ sat64 (now - since)))) := by
                unfold Hid cond3
                rw [if_pos hz, ← HST.out, ← hcb.out]
              clear hz
              rw [hzb]
              clear hzb
              cases cb
              · go_wp2_with fail
                go_meet
                case rel => exact ⟨by rw [HC.out]; rfl, rfl⟩
              · go_wp2_with (go_at_call 13; refine (satSub_any _ now since h5 h6 h3 h4).mono ?_; rintro e w2 ⟨rfl, hw2⟩; rw [hw2]; clear hw2 w2)
                go_meet
                case rel => exact ⟨by rw [HC.out]; rfl, rfl⟩
            · have hzb : ((L : Int) == 0) = false := by simp [hz]
              have HC : Hid (cond3 L ms size timeout (sat64 (now - since)) f = (cb && Maj (ms.countP (counts f lb L)) size)) := by
                unfold Hid cond3
                rw [if_neg hz, ← HST.out, ← hcb.out]
              clear hz
              rw [hzb]
              clear hzb
              go_wp2_with fail
              go_loopw [28, 119] (fun n i wr => ∃ k c : Nat, k ≤ ms.length ∧ i = .int .i64 k ∧ n = .int .i64 c ∧ c ≤ k ∧ Hid (c = (ms.take k).countP (counts f lb L)) ∧ wr = wc) (fun _ i _ => ms.length - (intOf i).toNat)
              case atStart => exact ⟨0, 0, by omega, by go_num, by go_num, by omega, by simp [Hid], rfl⟩
              case round =>
                obtain ⟨k, c, hk, rfl, rfl, hck, hcc, rfl⟩ := hrel
                by_cases hlt : k < ms.length
                case neg =>
                  obtain rfl : k = ms.length := by omega
                  have HCC : Hid (c = ms.countP (counts f lb L)) := by
                    have := hcc.out
                    rwa [List.take_of_length_le (Nat.le_refl _)] at this
                  cases cb
                  · go_wp2_with fail
                    go_meet
                    case rel => exact ⟨by rw [HC.out]; rfl, rfl⟩
                  · go_wp2_with (go_at_call 12; refine (zzMaj_any _ _ size h1 h2).mono ?_; rintro e w2 ⟨rfl, hw2⟩; rw [hw2]; clear hw2 w2)
                    go_meet
                    case rel => exact ⟨by rw [HC.out, ← HCC.out]; rfl, rfl⟩
                obtain ⟨b, off, cap'', hv, q1, q2, hcell⟩ := HM1.out.elem (by omega)
                simp only [Value.slice.injEq, true_and] at hv
                obtain ⟨rfl, rfl⟩ := hv
                have x0 := hcell k hlt
                have hb := HL.out _ (List.getElem_mem hlt)
                clear hcell
                obtain ⟨rv, hrun, hrd⟩ := HMA.out.look hb
                replace hrd : Hid (Nums wr rv (f ms[k])) := hrd
                have hsn : Hid ((ms.take (k + 1)).countP (counts f lb L) = (ms.take k).countP (counts f lb L) + (if counts f lb L ms[k] then 1 else 0)) := count_snoc _ hlt
                by_cases e1 : ms[k] = lb
                · have e0 : Hid (counts f lb L ms[k] = false) := by unfold Hid counts; simp [e1]
                  have e1' : ((ms[k] : Int) != lb) = false := by simp [e1]
                  clear e1
                  go_wp2_with fail
                  go_roundw
                  case rel => exact ⟨k + 1, c, by omega, by go_num, by go_num, by omega, by unfold Hid; rw [hsn.out, e0.out, ← hcc.out]; rfl, trivial⟩
                  case measure => simp [intOf]; omega
                · have e1' : ((ms[k] : Int) != lb) = true := by simp; omega
                  by_cases e2 : ms[k] = L
                  · have e0 : Hid (counts f lb L ms[k] = false) := by unfold Hid counts; simp [e2]
                    have e2' : ((ms[k] : Int) != L) = false := by simp [e2]
                    clear e1 e2
                    go_wp2_with fail
                    go_roundw
                    case rel => exact ⟨k + 1, c, by omega, by go_num, by go_num, by omega, by unfold Hid; rw [hsn.out, e0.out, ← hcc.out]; rfl, trivial⟩
                    case measure => simp [intOf]; omega
                  · have e2' : ((ms[k] : Int) != L) = true := by simp; omega
                    cases hco : (f ms[k]).contains L
                    · have e0 : Hid (counts f lb L ms[k] = false) := by unfold Hid counts; rw [hco]; simp
                      clear e1 e2
                      go_wp2_with (go_at_call 14; refine (has_any _ rv (f ms[k]) L hrd.out).mono ?_; rintro e w2 ⟨rfl, hw2⟩; rw [hw2, hco]; clear hw2 w2)
                      go_roundw
                      case rel => exact ⟨k + 1, c, by omega, by go_num, by go_num, by omega, by unfold Hid; rw [hsn.out, e0.out, ← hcc.out]; rfl, trivial⟩
                      case measure => simp [intOf]; omega
                    · have e0 : Hid (counts f lb L ms[k] = true) := by unfold Hid counts; rw [hco, decide_eq_true e1, decide_eq_true e2]; rfl
                      clear e1 e2
                      go_wp2_with (go_at_call 14; refine (has_any _ rv (f ms[k]) L hrd.out).mono ?_; rintro e w2 ⟨rfl, hw2⟩; rw [hw2, hco]; clear hw2 w2)
                      go_roundw
                      case rel => exact ⟨k + 1, c + 1, by omega, by go_num, by go_num, by omega, by unfold Hid; rw [hsn.out, e0.out, ← hcc.out]; rfl, trivial⟩
                      case measure => simp [intOf]; omega
          case rest =>
            obtain ⟨rfl, hwc⟩ := hcut
            subst hwc
            obtain ⟨C, hC⟩ : ∃ C, cond3 L ms size timeout (sat64 (now - since)) f = C := ⟨_, rfl⟩
            rw [hC]
            replace hC : Hid (cond3 L ms size timeout (sat64 (now - since)) f = C) := hC
            clear hcb
            go_wp2_with fail
            go_loopw [149] (fun i wr => ∃ k : Nat, k ≤ ms.length ∧ i = .int .i64 k ∧ Hid (Below wc.heap.size wc wr)) (fun i _ => ms.length - (intOf i).toNat)
            case atStart => exact ⟨0, by omega, by go_num, Below.refl _ _⟩
            case round =>
              obtain ⟨k, hk, rfl, hbel⟩ := hrel
              by_cases hlt : k < ms.length
              case neg =>
                go_wp2_with fail
                go_ret
                exact ⟨rfl, HB1.out.trans (hbel.out.mono HB1.out.size)⟩
              obtain ⟨b, off, cap'', hv, q1, q2, hcell⟩ := HM1.out.elem (by omega)
              simp only [Value.slice.injEq, true_and] at hv
              obtain ⟨rfl, rfl⟩ := hv
              replace hcell : Hid (∀ k (hk : k < ms.length), wc.cell? ⟨b, off + k, none⟩ = some (.int .u32 (ms[k] : Nat))) := hcell
              have hkb := HL.out _ (List.getElem_mem hlt)
              go_wp2_with (at_make; refine wpList_make_own _ rfl _ _ 22 rfl wr.heap.size 25 i0 (.int .u32 0) 1 Try.underlying22 hi hz0 hz1 .i64 .i64 _ ms.length rfl rfl rfl (by rw [hz2]; omega) (by unfold maxLen; omega) (Nat.le_refl _) ?_; intro w0 hown0 hgrow0; replace hown0 : Hid (Own w0 wr.heap.size (.slice (some ⟨wr.heap.size, 0, none⟩) 0 ms.length) []) := hown0; replace hgrow0 : Hid (Below wr.heap.size wr w0) := (Below.refl _ _).grown hgrow0 (Nat.le_refl _) (fun k hk => by cases hk))
              obtain ⟨wo, hwo⟩ : ∃ wo, wo = wr := ⟨_, rfl⟩
              subst hwo
              go_loopw [32, 157] (fun qv j wr => ∃ (j' : Nat) (pv : Value), j' ≤ ms.length ∧ qv = pv ∧ j = .int .i64 j' ∧ Hid (Own wr wo.heap.size pv ((ms.take j').eraseIdx k)) ∧ Hid (Below wo.heap.size wo wr)) (fun _ j _ => ms.length - (intOf j).toNat)
              case atStart => exact ⟨0, _, by omega, rfl, by go_num, by simpa using hown0, hgrow0⟩
              case round =>
                obtain ⟨j, pv, hj, hqv, rfl, hown, hbo⟩ := hrel
                have hqv' := hqv.symm
                clear hqv
                subst hqv'
                have hbc : Hid (Below wc.heap.size wc wr) := hbel.out.trans (hbo.out.mono hbel.out.size)
                by_cases hjlt : j < ms.length
                case pos =>
                  have hc0 := hcell.out j hjlt
                  have x0 := (hbc.out.cell (World.block_lt_of_cell? wc _ hc0)).trans hc0
                  clear hc0
                  have hps := peers_step (i := k) hjlt
                  by_cases hjk : j = k
                  · have hn : Hid (Own wr wo.heap.size pv ((ms.take (j + 1)).eraseIdx k)) := by
                      unfold Hid
                      rw [hps, if_pos hjk]
                      exact hown.out
                    have hjk' : ((j : Int) != k) = false := by simp; omega
                    clear hps hjk
                    go_wp2_with fail
                    go_roundw
                    case rel => exact ⟨j + 1, _, by omega, rfl, by go_num, hn, hbo⟩
                    case measure => simp [intOf]; omega
                  · have HPS : Hid ((ms.take (j + 1)).eraseIdx k = (ms.take j).eraseIdx k ++ [ms[j]]) := by
                      unfold Hid
                      rw [hps, if_neg hjk]
                    have hjk' : ((j : Int) != k) = true := by simp; omega
                    have hle : ((ms.take j).eraseIdx k).length ≤ 1099511627776 := by
                      have h1 := List.length_eraseIdx_le (ms.take j) k
                      have h2 := List.length_take_le j ms
                      omega
                    clear hps hjk
                    go_wp2_with (at_builtin; refine wpList_num rfl _ _ rfl wr wo.heap.size _ _ hown.out hbo.out.size hle _ ms[j] rfl _ rfl rfl rfl ?_; intro v' w' hown' hb'; replace hown' : Hid (Own w' wo.heap.size v' ((ms.take j).eraseIdx k ++ [ms[j]])) := hown'; replace hb' : Hid (Below wo.heap.size wr w') := hb')
                    go_roundw
                    case rel => exact ⟨j + 1, _, by omega, rfl, by go_num, by unfold Hid; rw [HPS.out]; exact hown'.out, hbo.out.trans hb'.out⟩
                    case measure => simp [intOf]; omega
                obtain rfl : j = ms.length := by omega
                have HN : Hid (Nums wr pv (ms.eraseIdx k)) := by
                  have := hown.out
                  rw [List.take_of_length_le (Nat.le_refl _)] at this
                  exact Rd.of_owns this
                have HLE : Hid (∀ x ∈ ms.eraseIdx k, x < 4294967296) := fun x hx => HL.out x (List.mem_of_mem_eraseIdx hx)
                have hle : (ms.eraseIdx k).length ≤ 65536 := by
                  have h1 := List.length_eraseIdx_le ms k
                  omega
                have HMr : Hid (MapAt wr (.map (some b0)) f) := HMA.out.later hbc.out
                have hc0 := hcell.out k hlt
                have x0 := (hbc.out.cell (World.block_lt_of_cell? wc _ hc0)).trans hc0
                have HPL : Hid (leadAns ms[k] (leaderOf known lid) (ms.eraseIdx k) size timeout (sat64 (now - since)) f = (C && decide (ms[k] = lb))) := by
                  unfold Hid
                  rw [hL.out, plain3 L ms size timeout _ f k hlt hnd.out, hC.out, ← HST.out]
                clear hc0 hown hj hjlt
                go_wp2_with fail
                refine (ask_any _ ms[k] pv size timeout since now known round lid (.map (some b0)) f (ms.eraseIdx k) HLE.out HN.out HMr.out hle h1 h2 hlid h3 h4 h5 h6).mono ?_
                rintro e w3 ⟨rfl, hb3⟩
                rw [HPL.out]
                have hbw3 : Hid (Below wc.heap.size wc w3) := hbc.out.trans (hb3.mono hbc.out.size)
                have x3 := (hb3.cell (World.block_lt_of_cell? wr _ x0)).trans x0
                clear hb3 x0 HPL
                cases C
                · go_wp2_with fail
                  go_roundw
                  case rel => exact ⟨k + 1, by omega, by go_num, hbw3⟩
                  case measure => simp [intOf]; omega
                · by_cases hkl : ms[k] = lb
                  · rw [decide_eq_true hkl]
                    have hkl' : ((ms[k] : Int) == lb) = true := by simp [hkl]
                    clear hkl
                    go_wp2_with fail
                    go_roundw
                    case rel => exact ⟨k + 1, by omega, by go_num, hbw3⟩
                    case measure => simp [intOf]; omega
                  · rw [decide_eq_false hkl]
                    have hkl' : ((ms[k] : Int) == lb) = false := by simp; omega
                    clear hkl
                    go_wp2_with fail
                    go_roundw
                    case rel => exact ⟨k + 1, by omega, by go_num, hbw3⟩
                    case measure => simp [intOf]; omega
end Go.Proofs.Qxb6616714a
