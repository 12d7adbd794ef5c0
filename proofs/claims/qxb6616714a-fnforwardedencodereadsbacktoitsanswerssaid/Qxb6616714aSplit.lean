import Derived.Test.Qxb6616714aBig
import Derived.Test.Qxb6616714aHead
import Derived.Deep.QuietTactic
import Derived.BigQuiet
namespace Go.Proofs.Qxb6616714a
open Go.RowKit

theorem flat_take_len {α : Type} (f : α → List Value) (size : Nat) (hf : ∀ x, (f x).length = size) (es : List α) (c : Nat) : (es.take c).flatMap f = (es.flatMap f).take (c * size) := by
  induction es generalizing c with
  | nil => simp
  | cons e r ih =>
    cases c with
    | zero => simp
    | succ c =>
      rw [List.take_succ_cons, List.flatMap_cons, List.flatMap_cons, ih, List.take_append, hf, Nat.succ_mul]
      rw [List.take_of_length_le (l := f e) (by rw [hf]; omega), show c * size + size - size = c * size by omega]
theorem flat_drop_len {α : Type} (f : α → List Value) (size : Nat) (hf : ∀ x, (f x).length = size) (es : List α) (c : Nat) : (es.drop c).flatMap f = (es.flatMap f).drop (c * size) := by
  induction es generalizing c with
  | nil => simp
  | cons e r ih =>
    cases c with
    | zero => simp
    | succ c =>
      rw [List.drop_succ_cons, List.flatMap_cons, ih, List.drop_append, hf, Nat.succ_mul]
      rw [List.drop_of_length_le (l := f e) (by rw [hf]; omega), show c * size + size - size = c * size by omega, List.nil_append]
theorem Rd_take {α : Type} {f : α → List Value} {size : Nat} (hf : ∀ x, (f x).length = size) {es : List α} {w : World} {ao : Option Addr} {n cap : Nat} (hn : n = es.length) (h : Rd w (.slice ao n cap) n (es.flatMap f)) (c : Nat) (hc : c ≤ n) :
    Rd w (.slice ao c cap) (es.take c).length ((es.take c).flatMap f) := by
  obtain ⟨ao', cap', hv, h1, h2, h3, h4⟩ := h
  simp at hv
  obtain ⟨rfl, rfl⟩ := hv
  have hl : (es.take c).length = c := by rw [List.length_take]; omega
  rw [hl]
  refine ⟨ao, cap, rfl, by omega, h2, fun h => ?_, fun ad hd j u hu => h4 ad hd j u ?_⟩
  · obtain ⟨h5, h6, h7⟩ := h3 h
    have : c = 0 := by omega
    subst this
    exact ⟨rfl, h6, by simp⟩
  · rw [flat_take_len f size hf, List.getElem?_take] at hu
    split at hu
    · exact hu
    · cases hu
theorem add_add (a : Addr) (i j : Nat) : (a.add i).add j = a.add (i + j) := by
  unfold Addr.add
  by_cases hi : i = 0 <;> by_cases hj : j = 0 <;> simp [hi, hj, Nat.add_assoc]
theorem Rd_drop {α : Type} {f : α → List Value} {size : Nat} (hf : ∀ x, (f x).length = size) {es : List α} {w : World} {ao : Option Addr} {n cap : Nat} (hn : n = es.length) (h : Rd w (.slice ao n cap) n (es.flatMap f)) (c : Nat) (hc : c ≤ n) (hcap : ¬ cap = c) :
    Rd w (.slice (Option.map (fun x => x.add (c * size)) ao) (n - c) (cap - c)) (es.drop c).length ((es.drop c).flatMap f) := by
  obtain ⟨ao', cap', hv, h1, h2, h3, h4⟩ := h
  simp at hv
  obtain ⟨rfl, rfl⟩ := hv
  have hl : (es.drop c).length = n - c := by rw [List.length_drop]; omega
  rw [hl]
  cases ao with
  | none => obtain ⟨h5, h6, _⟩ := h3 rfl; omega
  | some ad =>
    refine ⟨some (ad.add (c * size)), cap - c, rfl, by omega, by omega, (fun h => by cases h), fun ad' hd j u hu => ?_⟩
    cases hd
    rw [flat_drop_len f size hf, List.getElem?_drop] at hu
    rw [add_add]
    exact h4 ad rfl (c * size + j) u hu
theorem Rd_end {α : Type} {f : α → List Value} {es : List α} {w : World} {ao : Option Addr} {n c : Nat} (hn : n = es.length) (hc : c = n) : Rd w (.slice ao (n - c) 0) (es.drop c).length ((es.drop c).flatMap f) := by
  have h0 : es.drop c = [] := List.drop_of_length_le (by omega)
  rw [h0]
  exact ⟨ao, 0, by simp; omega, by simp, by simp, fun _ => ⟨rfl, rfl, rfl⟩, fun ad _ j u hu => by simp at hu⟩

theorem allW_drop (xs : List Ans) (c : Nat) : allW (xs.drop c) ≤ allW xs := by
  have := allW_append (xs.take c) (xs.drop c)
  rw [List.take_append_drop] at this
  omega
def body (xs : List Ans) : List UInt8 := xs.flatMap encAns
theorem encAll_eq (xs : List Ans) : encAll xs = 24 :: (Lib.uvarint xs.length ++ body xs) := rfl
theorem encAll_len (xs : List Ans) : (encAll xs).length = 1 + (Lib.uvarint xs.length).length + (body xs).length := by
  rw [encAll_eq]; simp; omega
theorem encAll_at (xs : List Ans) (i : Nat) : (encAll xs)[1 + (Lib.uvarint xs.length).length + i]? = (body xs)[i]? := by
  rw [encAll_eq, Nat.add_assoc, Nat.add_comm 1, List.getElem?_cons_succ, List.getElem?_append_right (by omega)]
  congr 1
  omega
theorem body_split (xs : List Ans) (c : Nat) : body xs = body (xs.take c) ++ body (xs.drop c) := by
  unfold body
  rw [← List.flatMap_append, List.take_append_drop]
theorem body_ge (xs : List Ans) : xs.length ≤ (body xs).length := by
  induction xs with
  | nil => simp
  | cons a r ih => simp only [body, List.flatMap_cons, List.length_append, List.length_cons, encAns] at *; omega
theorem body_head (a : Ans) (r : List Ans) : (body (a :: r))[0]? = some a.code.toUInt8 := by
  simp [body, encAns]
theorem bufForm {w : World} {base : Nat} {v : Value} {l : List UInt8} (h : Buf w base v l) (hl : 0 < l.length) :
    ∃ g cap, v = .slice (some ⟨g, 0, none⟩) l.length cap ∧ g < w.heap.size ∧ ∀ j u, l[j]? = some u → w.cell? ⟨g, 0 + j, none⟩ = some (.int .u8 u.toNat) := by
  obtain ⟨g, cap, hv, _, hg⟩ := h.form hl
  refine ⟨g, cap, hv, hg, fun j u hu => ?_⟩
  have := h.cells (g := g) (by rw [hv]; rfl) j (.int .u8 u.toNat) (by simp [byteCells, hu])
  rwa [show (⟨g, 0, none⟩ : Addr).add j = ⟨g, 0 + j, none⟩ by unfold Addr.add; split <;> simp_all] at this
theorem encAns_lenI (a : Ans) (w : World) (h : ansW a ≤ 137438953472) (hk : a.okI w) : (encAns a).length ≤ ansW a := by
  unfold ansW at *
  have h1 := Lib.uvarint_length64 hk.rev
  have h2 := Lib.uvarint_length64 (x := a.val.length) (by omega)
  have h3 := Lib.uvarint_length64 hk.prev
  have h4 := Lib.uvarint_length64 (x := a.ents.length) (by have := entsW_len a.ents; omega)
  have h5 := ents_len a.ents (by omega) (fun e he => (hk.each e he).2)
  have h6 := Lib.uvarint_length64 hk.lid
  have h7 := Lib.uvarint_length64 (x := a.ttl) (by have := hk.ttl; omega)
  have h8 := Lib.uvarint_length64 (x := msOf a.rem) (msOf_lt _ hk.rem2)
  have h9 := Lib.uvarint_length64 (x := a.keys.length) (by have := keysW_len a.keys; omega)
  have h10 := keys_enc_len a.keys (by omega)
  unfold encAns encRest encPage encLease bytesB flagB
  repeat' split
  all_goals
    simp only [List.length_cons, List.length_append, List.length_nil]
    omega
theorem body_le (xs : List Ans) (w : World) (h : allW xs ≤ 137438953472) (hk : ∀ a ∈ xs, a.okI w) : (body xs).length ≤ allW xs := by
  induction xs with
  | nil => simp [body]
  | cons e r ih =>
    simp only [body, List.flatMap_cons, List.length_append, allW] at *
    have := encAns_lenI e w (by omega) (hk e (by simp))
    have := ih (by omega) (fun x hx => hk x (by simp [hx]))
    omega
theorem encAll_pos (xs : List Ans) : 0 < (encAll xs).length := by rw [encAll_len]; omega

set_option maxHeartbeats 4000000 in
set_option maxRecDepth 20000 in
theorem split_any (w : World) (av : Value) (xs : List Ans) (cut : Int) (hp : Rd w av xs.length (xs.flatMap inCells)) (he : ∀ a ∈ xs, a.okI w) :
    Calls Try.prog 7 #[av, .int .i64 cut] w fun e w' => e = .returned (.bool true) ∧ Below w.heap.size w w' := by
  have HP : Hid (Rd w av xs.length (xs.flatMap inCells)) := hp
  have HE : Hid (∀ a ∈ xs, a.okI w) := he
  clear he
  obtain ⟨ao, cap, rfl, g1, g2, g3, g4⟩ := hp
  clear g3 g4
  unfold maxLen at g2
  go_enter Try.func7, Try.ntmps7
  go_wp2_with fail
  refine (bytes25 w _ xs cut HP.out HE.out).mono ?_
  rintro e w1 ⟨B, rfl, rfl, hB⟩
  cases B with
  | false =>
    go_wp2_with fail
    go_ret
    exact ⟨rfl, Below.refl _ _⟩
  | true =>
  obtain ⟨hn, hsm⟩ := hB rfl
  have HS : Hid (∀ a ∈ xs, SmallA a) := hsm
  clear hB hsm
  go_wp2_with fail
  refine (tooBig_any w1 _ xs HP.out HE.out HS.out hn).mono ?_
  rintro e w2 ⟨B, rfl, hbel, hB⟩
  cases B with
  | true =>
    go_wp2_with fail
    go_ret
    exact ⟨rfl, hbel⟩
  | false =>
  have hall := hB rfl
  have HB : Hid (Below w1.heap.size w1 w2) := hbel
  clear hB hbel HS
  by_cases hc0 : cut < 0
  · go_wp2_with fail
    go_ret
    exact ⟨rfl, HB.out⟩
  by_cases hc1 : cut ≤ (xs.length : Int)
  case neg =>
    have hc1' : (xs.length : Int) < cut := by omega
    have hc0' : 0 ≤ cut := by omega
    clear hc0 hc1
    go_wp2_with fail
    go_ret
    exact ⟨rfl, HB.out⟩
  obtain ⟨c, rfl⟩ := Int.eq_ofNat_of_zero_le (show 0 ≤ cut by omega)
  have hcn : c ≤ xs.length := by omega
  clear hc0
  go_wp2_with fail
  refine (build_any w2 _ xs (HP.out.later HB.out) (fun a ha => (HE.out a ha).later HB.out) (by omega)).mono ?_
  rintro e w3 ⟨v3, rfl, hb3, hB3⟩
  have hb23 := HB.out.trans (hB3.mono HB.out.size)
  go_wp2_with fail
  refine (build_any w3 _ (xs.take c) (Rd_take (size := 12) (fun _ => rfl) rfl (HP.out.later hb23) c hcn) (fun a ha => (HE.out a (List.mem_of_mem_take ha)).later hb23) (by have := allW_take xs c; omega)).mono ?_
  rintro e w4 ⟨v4, rfl, hb4, hB4⟩
  have hb24 := hb23.trans (hB4.mono hb23.size)
  go_upto_region 9 with fail
  go_cut [0, 7] (fun s0 v5 wc => s0 = .slice ao xs.length cap ∧ Hid (Buf wc w4.heap.size v5 (encAll (xs.drop c))) ∧ Hid (Below w4.heap.size w4 wc))
  case first =>
    have hdw := allW_drop xs c
    go_wp2_with fail
    · have hcc : cap = c := by assumption
      refine (build_any w4 _ (xs.drop c) (Rd_end rfl (by omega)) (fun a ha => (HE.out a (List.mem_of_mem_drop ha)).later hb24) (by omega)).mono ?_
      rintro e w5 ⟨v5, rfl, hb5, hB5⟩
      replace hb5 : Hid (Buf w5 w4.heap.size v5 (encAll (xs.drop c))) := hb5
      replace hB5 : Hid (Below w4.heap.size w4 w5) := hB5
      go_wp2_with fail
      go_meet
      case rel => exact ⟨by rw [hcc], hb5, hB5⟩
    · have hcc : ¬ cap = c := by assumption
      refine (build_any w4 _ (xs.drop c) (Rd_drop (size := 12) (fun _ => rfl) rfl (HP.out.later hb24) c hcn hcc) (fun a ha => (HE.out a (List.mem_of_mem_drop ha)).later hb24) (by omega)).mono ?_
      rintro e w5 ⟨v5, rfl, hb5, hB5⟩
      replace hb5 : Hid (Buf w5 w4.heap.size v5 (encAll (xs.drop c))) := hb5
      replace hB5 : Hid (Below w4.heap.size w4 w5) := hB5
      go_wp2_with fail
      go_meet
      case rel => exact ⟨rfl, hb5, hB5⟩
  case rest =>
    obtain ⟨rfl, hb5, hB5⟩ := hcut
    have hb35 : Below w3.heap.size w3 wc := hB4.trans (hB5.out.mono hB4.size)
    have hb25 : Below w1.heap.size w1 wc := hb24.trans (hB5.out.mono hb24.size)
    obtain ⟨ga, ca, hva, hga, hca⟩ := bufForm (hb3.later hb35) (encAll_pos xs)
    obtain ⟨gf, cf, hvf, hgf, hcf⟩ := bufForm (hb4.later hB5.out) (encAll_pos (xs.take c))
    obtain ⟨gb, cb, hvb, hgb, hcb⟩ := bufForm hb5.out (encAll_pos (xs.drop c))
    subst hva hvf hvb
    have hlt : (xs.take c).length = c := by rw [List.length_take]; omega
    have hld : (xs.drop c).length = xs.length - c := List.length_drop
    have ea := encAll_eq xs
    have ef := encAll_eq (xs.take c)
    have eb := encAll_eq (xs.drop c)
    have la := encAll_len xs
    have lf := encAll_len (xs.take c)
    have lb := encAll_len (xs.drop c)
    rw [hlt] at ef lf
    rw [hld] at eb lb
    have hsp := congrArg List.length (body_split xs c)
    rw [List.length_append] at hsp
    have hge := body_ge xs
    have hbb := body_le xs w1 (by omega) HE.out
    have hu1 := Lib.uvarint_length64 (x := xs.length) (by omega)
    have hu2 := Lib.uvarint_length64 (x := c) (by omega)
    have hu3 := Lib.uvarint_length64 (x := xs.length - c) (by omega)
    have hA := header_any wc ga 0 _ ca (encAll xs) xs.length (body xs) rfl hca ea (by omega) (by omega)
    have hF := header_any wc gf 0 _ cf (encAll (xs.take c)) c (body (xs.take c)) rfl hcf ef (by omega) (by omega)
    have hK := header_any wc gb 0 _ cb (encAll (xs.drop c)) (xs.length - c) (body (xs.drop c)) rfl hcb eb (by omega) (by omega)
    have la1 : (encAll xs).length ≤ 1 + (Lib.uvarint xs.length).length + (body xs).length := by omega
    have la2 : 1 + (Lib.uvarint xs.length).length + (body xs).length ≤ (encAll xs).length := by omega
    have lf1 : (encAll (xs.take c)).length ≤ 1 + (Lib.uvarint c).length + (body (xs.take c)).length := by omega
    have lf2 : 1 + (Lib.uvarint c).length + (body (xs.take c)).length ≤ (encAll (xs.take c)).length := by omega
    have lb1 : (encAll (xs.drop c)).length ≤ 1 + (Lib.uvarint (xs.length - c)).length + (body (xs.drop c)).length := by omega
    have lb2 : 1 + (Lib.uvarint (xs.length - c)).length + (body (xs.drop c)).length ≤ (encAll (xs.drop c)).length := by omega
    have hs1 : (body xs).length ≤ (body (xs.take c)).length + (body (xs.drop c)).length := by omega
    have hs2 : (body (xs.take c)).length + (body (xs.drop c)).length ≤ (body xs).length := by omega
    have BA : Hid (∀ i u, (body xs)[i]? = some u → wc.cell? ⟨ga, 1 + (Lib.uvarint xs.length).length + i, none⟩ = some (.int .u8 u.toNat)) := fun i u hu => by
      have := hca (1 + (Lib.uvarint xs.length).length + i) u (by rw [encAll_at]; exact hu)
      rwa [Nat.zero_add] at this
    have BF : Hid (∀ i u, (body (xs.take c))[i]? = some u → wc.cell? ⟨gf, 1 + (Lib.uvarint c).length + i, none⟩ = some (.int .u8 u.toNat)) := fun i u hu => by
      have h := encAll_at (xs.take c) i
      rw [hlt] at h
      have := hcf (1 + (Lib.uvarint c).length + i) u (by rw [h]; exact hu)
      rwa [Nat.zero_add] at this
    have BB : Hid (∀ i u, (body (xs.drop c))[i]? = some u → wc.cell? ⟨gb, 1 + (Lib.uvarint (xs.length - c)).length + i, none⟩ = some (.int .u8 u.toNat)) := fun i u hu => by
      have h := encAll_at (xs.drop c) i
      rw [hld] at h
      have := hcb (1 + (Lib.uvarint (xs.length - c)).length + i) u (by rw [h]; exact hu)
      rwa [Nat.zero_add] at this
    have HB5 : Hid (Below w1.heap.size w1 wc) := hb25
    have hSub : Hid ((xs.length : Int) - (c : Int) = ((xs.length - c : Nat) : Int)) := by unfold Hid; omega
    clear hca hcf hcb hlt hld ea ef eb la lf lb hsp hb35 hb25 hb24 hb23 hb3 hb4 hB3 hB4 hb5 hB5
    go_wp2_with fail
    refine hA.mono ?_
    rintro e w6 ⟨rfl, rfl⟩
    clear hA
    go_wp2_with fail
    refine hF.mono ?_
    rintro e w7 ⟨rfl, rfl⟩
    clear hF
    go_wp2_with fail
    rw [hSub.out]
    refine hK.mono ?_
    rintro e w8 ⟨rfl, rfl⟩
    clear hK hSub
    go_wp2_with fail
    go_cut [109] (fun s wx => s = .bool false ∧ Hid (Below w8.heap.size w8 wx))
    case first =>
      by_cases hn0 : 0 < xs.length
      case neg =>
        have hd : decide ((0 : Int) < (xs.length : Int)) = false := decide_eq_false (by omega)
        go_quiet (fail)
        go_wp2_with fail
        go_meet
        case rel => exact ⟨rfl, below_drewN (Below.refl _ _) nq⟩
      case pos =>
        have hd : (0 : Int) < (xs.length : Int) := by omega
        obtain ⟨b, off, cap', hv, q1, q2, hcell⟩ := HP.out.elem (f := inCells) (size := 12) (fun _ => rfl) (by omega) hn0
        simp only [Value.slice.injEq, true_and] at hv
        obtain ⟨rfl, rfl⟩ := hv
        have hc0 := hcell 0 hn0 0 _ rfl
        have z0 : w8.cell? ⟨b, off, none⟩ = some (.int .u8 xs[0].code) := (HB5.out.cell (World.block_lt_of_cell? w1 _ hc0)).trans hc0
        have hk0 := (HE.out xs[0] (List.getElem_mem hn0)).code
        have z1 : w8.cell? ⟨ga, 1 + (Lib.uvarint xs.length).length, none⟩ = some (.int .u8 xs[0].code) := by
          have h := BA.out 0 xs[0].code.toUInt8 (by
            have : xs = xs[0] :: xs.drop 1 := by
              cases xs with
              | nil => simp at hn0
              | cons a r => simp
            conv => lhs; rw [this]
            exact body_head _ _)
          rw [Nat.add_zero, show (xs[0].code.toUInt8.toNat : Int) = (xs[0].code : Int) by simp; omega] at h
          exact h
        have i1 : (1 : Int) + ((Lib.uvarint xs.length).length : Int) < ((encAll xs).length : Int) := by omega
        have i2 : (0 : Int) ≤ 1 + ((Lib.uvarint xs.length).length : Int) := by omega
        generalize xs[0].code = k0 at z0 z1
        clear hcell hc0
        go_quiet (fail)
        go_wp2_with fail
        go_meet
        case rel => exact ⟨rfl, below_drewN (Below.refl _ _) nq⟩
    case rest =>
      obtain ⟨rfl, hbx⟩ := hcut
      replace BA : Hid (∀ i u, (body xs)[i]? = some u → ∀ wx, Below w8.heap.size w8 wx → wx.cell? ⟨ga, 1 + (Lib.uvarint xs.length).length + i, none⟩ = some (.int .u8 u.toNat)) := fun i u hu wx hx => (hx.cell (World.block_lt_of_cell? w8 _ (BA.out i u hu))).trans (BA.out i u hu)
      replace BF : Hid (∀ i u, (body (xs.take c))[i]? = some u → ∀ wx, Below w8.heap.size w8 wx → wx.cell? ⟨gf, 1 + (Lib.uvarint c).length + i, none⟩ = some (.int .u8 u.toNat)) := fun i u hu wx hx => (hx.cell (World.block_lt_of_cell? w8 _ (BF.out i u hu))).trans (BF.out i u hu)
      replace BB : Hid (∀ i u, (body (xs.drop c))[i]? = some u → ∀ wx, Below w8.heap.size w8 wx → wx.cell? ⟨gb, 1 + (Lib.uvarint (xs.length - c)).length + i, none⟩ = some (.int .u8 u.toNat)) := fun i u hu wx hx => (hx.cell (World.block_lt_of_cell? w8 _ (BB.out i u hu))).trans (BB.out i u hu)
      have hSp : Hid (body xs = body (xs.take c) ++ body (xs.drop c)) := body_split xs c
      generalize body xs = bA at *
      generalize body (xs.take c) = bF at *
      generalize body (xs.drop c) = bK at *
      generalize (encAll xs).length = nA at *
      generalize (encAll (xs.take c)).length = nF at *
      generalize (encAll (xs.drop c)).length = nK at *
      generalize (Lib.uvarint xs.length).length = uA at *
      generalize (Lib.uvarint c).length = uF at *
      generalize (Lib.uvarint (xs.length - c)).length = uK at *
      go_wp2_with fail
      go_loopw [14, 15] (fun j k wr => ∃ i : Nat, i ≤ bF.length ∧ k = .int .i64 ((1 + uF + i : Nat) : Int) ∧ j = .int .i64 ((1 + uA + i : Nat) : Int) ∧ Hid (Below w8.heap.size w8 wr)) (fun _ k _ => nF - (intOf k).toNat)
      case atStart => exact ⟨0, by omega, by simp, by simp, hbx⟩
      case round =>
        obtain ⟨i, hi, rfl, rfl, hbr⟩ := hrel
        by_cases hlt : i < bF.length
        case pos =>
          have hfi := List.getElem?_eq_getElem hlt
          have hai : bA[i]? = some bF[i] := by rw [hSp.out, List.getElem?_append_left hlt]; exact hfi
          have z0 := BA.out i _ hai wr hbr.out
          have z1 := BF.out i _ hfi wr hbr.out
          clear hai hfi
          generalize bF[i] = u at z0 z1
          have i1 : ((1 + uA + i : Nat) : Int) < (nA : Int) := by omega
          have i2 : ((1 + uF + i : Nat) : Int) < (nF : Int) := by omega
          have i3 : (0 : Int) ≤ ((1 + uA + i : Nat) : Int) := by omega
          have i4 : (0 : Int) ≤ ((1 + uF + i : Nat) : Int) := by omega
          go_wp2_with fail
          go_quiet (fail)
          have hbq := below_drewN hbr.out nq
          generalize wr.drewN nq = wq at hbq ⊢
          replace hbq : Hid (Below w8.heap.size w8 wq) := hbq
          clear z0 z1 i1 i2 i3 i4
          go_wp2_with fail
          go_roundw
          case rel => exact ⟨i + 1, by omega, by go_num, by go_num, hbq⟩
          case measure => simp [intOf]; omega
        case neg =>
          have hi' : bF.length ≤ i := by omega
          go_wp2_with fail
          go_loopw [14, 16] (fun j k wr => ∃ i2 : Nat, i2 ≤ bK.length ∧ k = .int .i64 ((1 + uK + i2 : Nat) : Int) ∧ j = .int .i64 ((1 + uA + (bF.length + i2) : Nat) : Int) ∧ Hid (Below w8.heap.size w8 wr)) (fun _ k _ => nK - (intOf k).toNat)
          case atStart => exact ⟨0, by omega, by simp, by rw [show i = bF.length by omega]; simp, hbr⟩
          case round =>
            obtain ⟨i2, hi2, rfl, rfl, hbr2⟩ := hrel
            clear hlt hi' hbr hbx
            by_cases hlt2 : i2 < bK.length
            case pos =>
              have hfi := List.getElem?_eq_getElem hlt2
              have hai : bA[bF.length + i2]? = some bK[i2] := by rw [hSp.out, List.getElem?_append_right (by omega), Nat.add_sub_cancel_left]; exact hfi
              have z0 := BA.out (bF.length + i2) _ hai wr hbr2.out
              have z1 := BB.out i2 _ hfi wr hbr2.out
              clear hai hfi
              generalize bK[i2] = u at z0 z1
              have i1 : ((1 + uA + (bF.length + i2) : Nat) : Int) < (nA : Int) := by omega
              have i2' : ((1 + uK + i2 : Nat) : Int) < (nK : Int) := by omega
              have i3 : (0 : Int) ≤ ((1 + uA + (bF.length + i2) : Nat) : Int) := by omega
              have i4 : (0 : Int) ≤ ((1 + uK + i2 : Nat) : Int) := by omega
              go_wp2_with fail
              go_quiet (fail)
              have hbq := below_drewN hbr2.out nq
              generalize wr.drewN nq = wq at hbq ⊢
              replace hbq : Hid (Below w8.heap.size w8 wq) := hbq
              clear z0 z1 i1 i2' i3 i4
              go_wp2_with fail
              go_roundw
              case rel => exact ⟨i2 + 1, by omega, by go_num, by go_num, hbq⟩
              case measure => simp [intOf]; omega
            case neg =>
              go_wp2_with fail
              go_ret
              exact ⟨rfl, HB5.out.trans (hbr2.out.mono HB5.out.size)⟩
end Go.Proofs.Qxb6616714a
