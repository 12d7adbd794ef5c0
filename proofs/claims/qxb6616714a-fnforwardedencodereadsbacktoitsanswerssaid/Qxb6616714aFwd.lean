import Derived.Test.Qxb6616714aBuild
import Derived.Test.Qxb6616714aOrders
import Derived.Deep.DeepCutAuto
import Derived.Deep.DrawnRows
namespace Go.Proofs.Qxb6616714a
open Go.RowKit
set_option linter.unusedSimpArgs false

/-- an entry as it lies in an Answer (type 92); an Answer (type 51) -/
def inEnt (e : Ent) : List Value := [.string e.key, .int .u64 e.rev, e.vv]
def inCells (a : Ans) : List Value :=
  [.int .u8 a.code, .bool a.found, .int .u64 a.rev, a.vv, .int .u64 a.prev, .bool a.pmore, a.ev, .int .u64 a.lid, .int .u32 a.ttl, .int .i64 a.rem, .bool a.lmore, a.kv]
structure Ans.okI (w : World) (a : Ans) : Prop where
  code : a.code < 256
  rev : a.rev < 18446744073709551616
  val : Rd w a.vv a.val.length (byteCells a.val)
  prev : a.prev < 18446744073709551616
  ents : Rd w a.ev a.ents.length (a.ents.flatMap inEnt)
  each : ∀ e ∈ a.ents, e.ok w
  lid : a.lid < 18446744073709551616
  ttl : a.ttl < 4294967296
  rem1 : -9223372036854775808 ≤ a.rem
  rem2 : a.rem ≤ 9223372036854775807
  keys : Rd w a.kv a.keys.length (a.keys.flatMap keyCells)
theorem Ans.okI.later {w w' : World} {a : Ans} (h : a.okI w) (hb : Below w.heap.size w w') : a.okI w' :=
  ⟨h.code, h.rev, h.val.later hb, h.prev, h.ents.later hb, fun e he => (h.each e he).later hb, h.lid, h.ttl, h.rem1, h.rem2, h.keys.later hb⟩

/-- blocks of element type T are as they were -/
def Keeps (T : TypeId) (w w' : World) : Prop := ∀ (k : Nat) (cs : Array Value) (fz : Nat × Nat), w.heap[k]? = some (Obj.cells cs T fz) → w'.heap[k]? = some (Obj.cells cs T fz)
theorem Keeps.of_below {T : TypeId} {w w' : World} (h : Below w.heap.size w w') : Keeps T w w' := fun k cs fz hk => by
  rw [h.block k (Array.getElem?_eq_some_iff.1 hk).1, hk]
theorem Keeps.trans {T : TypeId} {a b c : World} (h : Keeps T a b) (k : Keeps T b c) : Keeps T a c := fun i cs fz hi => k i cs fz (h i cs fz hi)
theorem Keeps.of_app {T e : TypeId} {w w' : World} {v v' : Value} {base size n : Nat} {xs : List Value} (hown : w.ownsRow base e size v n xs) (h : App w v w' v') (hT : T ≠ e) : Keeps T w w' := fun k cs fz hk => by
  rw [h.1.block k (Array.getElem?_eq_some_iff.1 hk).1 ?_, hk]
  intro e'
  rcases hown.2 with ⟨rfl, _⟩ | ⟨g, cap, cur, rfl, _, hg, _⟩
  · cases e'
  · have : k = g := by simpa [Value.ownBlock] using e'
    subst this
    rw [hg] at hk
    simp at hk
    exact hT hk.2.1.symm
theorem Keeps.of_set {T e : TypeId} {w : World} {p : Addr} {u : Value} {cs : Array Value} {fz : Nat × Nat} (hp : w.heap[p.block]? = some (.cells cs e fz)) (hT : T ≠ e) : Keeps T w (w.setCell p u) := fun k ds fz' hk => by
  rw [Below.heap_setCell _ _ _ _ ?_]
  · exact hk
  · intro e'
    rw [e', hp] at hk
    simp at hk
    exact hT hk.2.1.symm
theorem Keeps.owns {T : TypeId} {w w' : World} {base size n : Nat} {v : Value} {xs : List Value} (h : Keeps T w w') (hown : w.ownsRow base T size v n xs) : w'.ownsRow base T size v n xs := by
  refine ⟨hown.1, ?_⟩
  rcases hown.2 with h' | ⟨g, cap, cur, h1, h2, h3, h4⟩
  · exact Or.inl h'
  · exact Or.inr ⟨g, cap, cur, h1, h2, h g cur _ h3, h4⟩
theorem owns_base {w : World} {b b' e size n : Nat} {v : Value} {xs : List Value} (h : w.ownsRow b e size v n xs) (hb : b' ≤ b) : w.ownsRow b' e size v n xs := by
  refine ⟨h.1, ?_⟩
  rcases h.2 with h' | ⟨g, cap, cur, h1, h2, h3⟩
  · exact Or.inl h'
  · exact Or.inr ⟨g, cap, cur, h1, by omega, h3⟩

/-- a stored answer: what it takes of the arguments' memory lies in w0; its page is a row of the call's own -/
structure okB (w0 w : World) (a : Ans) : Prop where
  code : a.code < 256
  rev : a.rev < 18446744073709551616
  val : Rd w0 a.vv a.val.length (byteCells a.val)
  prev : a.prev < 18446744073709551616
  ents : w.ownsRow w0.heap.size 138 3 a.ev a.ents.length (a.ents.flatMap entCells)
  each : ∀ e ∈ a.ents, e.ok w0
  lid : a.lid < 18446744073709551616
  ttl : a.ttl < 4294967296
  rem1 : -9223372036854775808 ≤ a.rem
  rem2 : a.rem ≤ 9223372036854775807
  keys : Rd w0 a.kv a.keys.length (a.keys.flatMap keyCells)
theorem okB.keeps {w0 w w' : World} {a : Ans} (h : okB w0 w a) (hk : Keeps 138 w w') : okB w0 w' a :=
  ⟨h.code, h.rev, h.val, h.prev, hk.owns h.ents, h.each, h.lid, h.ttl, h.rem1, h.rem2, h.keys⟩
theorem okB.okP {w0 w : World} {a : Ans} (h : okB w0 w a) (hb : Below w0.heap.size w0 w) : a.okP w :=
  ⟨h.code, h.rev, h.val.later hb, h.prev, Rd.of_owns h.ents, fun e he => (h.each e he).later hb, h.lid, h.ttl, h.rem1, h.rem2, h.keys.later hb⟩

/-- the message under construction: k answers in its row, its header in the box bm -/
structure MSt (w0 : World) (bm : Nat) (wr : World) (ys : List Ans) (mao : Option Addr) (mcap : Nat) : Prop where
  box : wr.heap[bm]? = some (.cells #[.slice mao ys.length mcap] 95 (0, 0))
  row : wr.ownsRow w0.heap.size 110 12 (.slice mao ys.length mcap) ys.length (ys.flatMap ansCells)
  each : ∀ y ∈ ys, okB w0 wr y
  old : Below w0.heap.size w0 wr
  bm : w0.heap.size ≤ bm
theorem MSt.later {w0 : World} {bm : Nat} {wr wr' : World} {ys : List Ans} {mao : Option Addr} {mcap : Nat} (h : MSt w0 bm wr ys mao mcap) (hb : Below wr.heap.size wr wr') : MSt w0 bm wr' ys mao mcap :=
  ⟨(Keeps.of_below hb) _ _ _ h.box, (Keeps.of_below hb).owns h.row, fun y hy => (h.each y hy).keeps (Keeps.of_below hb), h.old.trans (hb.mono h.old.size), h.bm⟩

theorem allW_append (xs ys : List Ans) : allW (xs ++ ys) = allW xs + allW ys := by
  induction xs with
  | nil => simp [allW]
  | cons a r ih => simp only [List.cons_append, allW, ih]; omega
theorem allW_snoc (xs : List Ans) (k : Nat) (h : k < xs.length) : allW (xs.take (k + 1)) = allW (xs.take k) + ansW xs[k] := by
  rw [List.take_succ_eq_append_getElem h, allW_append]
  simp [allW]

theorem App.belowR {w w' : World} {v v' : Value} {base e size n : Nat} {xs : List Value} (hown : w.ownsRow base e size v n xs) (h : App w v w' v') (hB : base ≤ w.heap.size) : Below base w w' :=
  ⟨h.1.os, h.1.tape, h.1.output, h.1.size, fun k hk => h.1.block k (by omega) (fun e => by have := (hown.lt k e.symm).1; omega)⟩
theorem own_ne {w : World} {base T size n : Nat} {v : Value} {xs : List Value} (h : w.ownsRow base T size v n xs) {k T' : Nat} {cs : Array Value} {fz : Nat × Nat} (hk : w.heap[k]? = some (.cells cs T' fz)) (hT : T ≠ T') : v.ownBlock ≠ some k := by
  intro e
  rcases h.2 with ⟨rfl, _⟩ | ⟨g, cap, cur, rfl, _, hg, _⟩
  · cases e
  · have : g = k := by simpa [Value.ownBlock] using e
    subst this
    rw [hg] at hk
    simp at hk
    exact hT hk.2.1

/-- three cells of a block that was laid ahead of a call -/
theorem box3 {W w2 : World} {a b c : Value} {T : TypeId} (h : Below (W.alloc (.cells #[a, b, c] T)).drew.heap.size (W.alloc (.cells #[a, b, c] T)).drew w2) : w2.heap[W.heap.size]? = some (.cells #[a, b, c] T (0, 0)) := by
  rw [h.block W.heap.size (by simp)]
  exact heap_new W _
theorem set3 {w : World} {k : Nat} {a b c x y z : Value} {T : TypeId} (h : w.heap[k]? = some (.cells #[a, b, c] T (0, 0))) :
    (((w.setCell ⟨k, 0, none⟩ x).setCell ⟨k, 1, none⟩ y).setCell ⟨k, 2, none⟩ z).heap[k]? = some (.cells #[x, y, z] T (0, 0)) := by
  simp [World.setCell, Array.getElem?_modify, h]
theorem below_set {B : Nat} {w w' : World} (h : Below B w w') {k : Nat} (hk : B ≤ k) (j : Nat) (u : Value) : Below B w (w'.setCell ⟨k, j, none⟩ u) := h.setCell (p := ⟨k, j, none⟩) hk u

theorem box5 {W w2 : World} {a b c d e : Value} {T : TypeId} (h : Below (W.alloc (.cells #[a, b, c, d, e] T)).drew.heap.size (W.alloc (.cells #[a, b, c, d, e] T)).drew w2) : w2.heap[W.heap.size]? = some (.cells #[a, b, c, d, e] T (0, 0)) := by
  rw [h.block W.heap.size (by simp)]
  exact heap_new W _
theorem set5 {w : World} {k : Nat} {a b c d e x y z s t : Value} {T : TypeId} (h : w.heap[k]? = some (.cells #[a, b, c, d, e] T (0, 0))) :
    (((((w.setCell ⟨k, 0, none⟩ x).setCell ⟨k, 1, none⟩ y).setCell ⟨k, 2, none⟩ z).setCell ⟨k, 3, none⟩ s).setCell ⟨k, 4, none⟩ t).heap[k]? = some (.cells #[x, y, z, s, t] T (0, 0)) := by
  simp [World.setCell, Array.getElem?_modify, h]
theorem set1 {w : World} {k : Nat} {a x : Value} {T : TypeId} (h : w.heap[k]? = some (.cells #[a] T (0, 0))) : (w.setCell ⟨k, 0, none⟩ x).heap[k]? = some (.cells #[x] T (0, 0)) := by
  simp [World.setCell, Array.getElem?_modify, h]
/-- one answer more -/
theorem MSt.add {w0 : World} {bm : Nat} {wr w' : World} {ys : List Ans} {mao : Option Addr} {mcap g cap' : Nat} {y : Ans} (h : MSt w0 bm wr ys mao mcap) (hy : okB w0 wr y)
    (hown : w'.ownsRow w0.heap.size 110 12 (.slice (some ⟨g, 0, none⟩) (ys.length + 1) cap') (ys.length + 1) (ys.flatMap ansCells ++ ansCells y)) (happ : App wr (.slice mao ys.length mcap) w' (.slice (some ⟨g, 0, none⟩) (ys.length + 1) cap')) :
    MSt w0 bm (w'.setCell ⟨bm, 0, none⟩ (.slice (some ⟨g, 0, none⟩) (ys.length + 1) cap')) (ys ++ [y]) (some ⟨g, 0, none⟩) cap' := by
  have hb := (Keeps.of_app (T := 95) h.row happ (by decide)) _ _ _ h.box
  have hk : Keeps 138 wr (w'.setCell ⟨bm, 0, none⟩ (.slice (some ⟨g, 0, none⟩) (ys.length + 1) cap')) := (Keeps.of_app h.row happ (by decide)).trans (Keeps.of_set (p := ⟨bm, 0, none⟩) hb (by decide))
  refine ⟨by rw [List.length_append]; exact set1 hb, ?_, ?_, h.old.trans (below_set (App.belowR h.row happ h.old.size) h.bm _ _), h.bm⟩
  · rw [List.length_append, List.flatMap_append]
    simpa using ownsRow_setCell_other hown (a := ⟨bm, 0, none⟩) (own_ne hown hb (by decide)) _
  · intro z hz
    rcases List.mem_append.1 hz with hz | hz
    · exact (h.each z hz).keeps hk
    · simp at hz
      subst hz
      exact hy.keeps hk

set_option maxHeartbeats 4000000 in
set_option maxRecDepth 20000 in
theorem build_any (w : World) (av : Value) (xs : List Ans) (hp : Rd w av xs.length (xs.flatMap inCells)) (he : ∀ a ∈ xs, a.okI w) (hl : allW xs + 128 ≤ 1073741824) :
    Calls Try.prog 22 #[av] w fun e w' => ∃ v', e = .returned v' ∧ Buf w' w.heap.size v' (encAll xs) ∧ Below w.heap.size w w' := by
  have HP : Hid (Rd w av xs.length (xs.flatMap inCells)) := hp
  have HE : Hid (∀ a ∈ xs, a.okI w) := he
  have hlen := allW_len xs
  clear he
  obtain ⟨ao, cap, rfl, g1, g2, g3, g4⟩ := hp
  clear g3 g4
  unfold maxLen at g2
  go_enter Try.func22, Try.ntmps22
  go_wp2_with fail
  refine (newMsg_any _).mono ?_
  rintro e w1 ⟨rfl, hb1⟩
  have m1 : MSt w w1.heap.size (w1.alloc (.cells #[.slice none 0 0] 95)) [] none 0 :=
    ⟨heap_new w1 _, World.ownsRow_nil _ _ _ _, (fun y hy => absurd hy (by simp)), hb1.alloc hb1.size _, hb1.size⟩
  have hbm : w.heap.size ≤ w1.heap.size := hb1.size
  clear hb1
  go_wp2_with fail
  go_loopw [13] (fun i wr => ∃ (ys : List Ans) (mao : Option Addr) (mcap : Nat), ys.length ≤ xs.length ∧ i = .int .i64 ys.length ∧ MSt w w1.heap.size wr ys mao mcap ∧ Hid (ys.flatMap encAns = (xs.take ys.length).flatMap encAns) ∧ Hid (allW ys = allW (xs.take ys.length))) (fun i _ => xs.length - (intOf i).toNat)
  case atStart => exact ⟨[], none, 0, by simp, rfl, m1, rfl, rfl⟩
  case round =>
    obtain ⟨ys, mao, mcap, hk, rfl, mk, henc, hall⟩ := hrel
    clear m1
    by_cases hlt : ys.length < xs.length
    · obtain ⟨b, off, cap', hv, q1, q2, hcell⟩ := HP.out.elem (f := inCells) (size := 12) (fun _ => rfl) (by omega) (by omega)
      simp only [Value.slice.injEq, true_and] at hv
      obtain ⟨rfl, rfl⟩ := hv
      have hc := fun j u h => (mk.old.cell (World.block_lt_of_cell? w _ (hcell ys.length hlt j u h))).trans (hcell ys.length hlt j u h)
      have hka := HE.out xs[ys.length] (List.getElem_mem hlt)
      have hW := allW_split xs ys.length hlt
      have hsn : Hid ((xs.take (ys.length + 1)).flatMap encAns = (xs.take ys.length).flatMap encAns ++ encAns xs[ys.length]) := flat_take encAns xs ys.length hlt
      have hsa : Hid (allW (xs.take (ys.length + 1)) = allW (xs.take ys.length) + ansW xs[ys.length]) := allW_snoc xs ys.length hlt
      have hbw : b < w.heap.size := World.block_lt_of_cell? w _ (hcell ys.length hlt 0 _ rfl)
      clear hcell
      generalize xs[ys.length] = a at hc hka hW hsn hsa
      obtain ⟨ao3, cap3, hv3, -⟩ := hka.val
      obtain ⟨ao6, cap6, hv6, -⟩ := hka.ents
      obtain ⟨ao11, cap11, hv11, -⟩ := hka.keys
      have x0 : wr.cell? ⟨b, off + ys.length * 12, none⟩ = some (.int .u8 a.code) := hc 0 _ rfl
      have x1 : wr.cell? ⟨b, off + ys.length * 12 + 1, none⟩ = some (.bool a.found) := hc 1 _ rfl
      have x2 : wr.cell? ⟨b, off + ys.length * 12 + 2, none⟩ = some (.int .u64 a.rev) := hc 2 _ rfl
      have x3 : wr.cell? ⟨b, off + ys.length * 12 + 3, none⟩ = some (.slice ao3 a.val.length cap3) := by rw [← hv3]; exact hc 3 _ rfl
      have x4 : wr.cell? ⟨b, off + ys.length * 12 + 4, none⟩ = some (.int .u64 a.prev) := hc 4 _ rfl
      have x5 : wr.cell? ⟨b, off + ys.length * 12 + 5, none⟩ = some (.bool a.pmore) := hc 5 _ rfl
      have x6 : wr.cell? ⟨b, off + ys.length * 12 + 6, none⟩ = some (.slice ao6 a.ents.length cap6) := by rw [← hv6]; exact hc 6 _ rfl
      have x7 : wr.cell? ⟨b, off + ys.length * 12 + 7, none⟩ = some (.int .u64 a.lid) := hc 7 _ rfl
      have x8 : wr.cell? ⟨b, off + ys.length * 12 + 8, none⟩ = some (.int .u32 a.ttl) := hc 8 _ rfl
      have x9 : wr.cell? ⟨b, off + ys.length * 12 + 9, none⟩ = some (.int .i64 a.rem) := hc 9 _ rfl
      have x10 : wr.cell? ⟨b, off + ys.length * 12 + 10, none⟩ = some (.bool a.lmore) := hc 10 _ rfl
      have x11 : wr.cell? ⟨b, off + ys.length * 12 + 11, none⟩ = some (.slice ao11 a.keys.length cap11) := by rw [← hv11]; exact hc 11 _ rfl
      clear hc
      have H3 : Hid (a.vv = .slice ao3 a.val.length cap3) := hv3
      have H6 : Hid (a.ev = .slice ao6 a.ents.length cap6) := hv6
      have H11 : Hid (a.kv = .slice ao11 a.keys.length cap11) := hv11
      clear hv3 hv6 hv11
      simp only [ansW] at hW
      generalize hb12 : off + ys.length * 12 = o12 at x0 x1 x2 x3 x4 x5 x6 x7 x8 x9 x10 x11
      have HO : off + ys.length * 12 = o12 := hb12
      clear hb12
      go_wp2_with fail
      have hblt : b < wr.heap.size := World.block_lt_of_cell? wr _ x0
      go_cut [6] (fun p wc => ∃ bp : Nat, p = .pointer (some ⟨bp, 0, none⟩) ∧ wr.heap.size ≤ bp ∧ Hid (wc.heap[bp]? = some (.cells #[.int .u64 a.prev, .slice none 0 0, .bool a.pmore] 99 (0, 0))) ∧ Hid (Below wr.heap.size wr wc))
      case first =>
        clear x0 x1 x2 x3 x6 x7 x8 x9 x10 x11
        have n1 : wr.heap.size ≠ b := by omega
        go_region_held3 (fun w' => w'.cell? ⟨b, o12 + 4, none⟩ = some (.int .u64 a.prev) ∧ w'.cell? ⟨b, o12 + 5, none⟩ = some (.bool a.pmore)) (go_keep)
          (first | (go_at_call 36; refine (newPage_any _ _ _).mono ?_; rintro e w2 ⟨rfl, hb2⟩; have hB2 : Below wr.heap.size wr w2 := Below.trans (by first | exact (Below.refl _ _).drew | exact ((Below.refl _ _).alloc (Nat.le_refl _) _).drew) (hb2.mono (by simp)); have y4 := (hB2.cell (p := ⟨b, o12 + 4, none⟩) hblt).trans x4; have y5 := (hB2.cell (p := ⟨b, o12 + 5, none⟩) hblt).trans x5; have n2 : ¬ b = w2.heap.size := (by have := hB2.size; omega); (try (have z := box3 hb2; have z0 := cells_of_block z 0 _ rfl; have z1 := cells_of_block z 1 _ rfl; have z2 := cells_of_block z 2 _ rfl; have f0 := free_of_block z 0; have f1 := free_of_block z 1; have f2 := free_of_block z 2)); replace hB2 : Hid (Below wr.heap.size wr w2) := hB2; clear hb2))
        · go_wp2_with fail
          go_meet
          case rel => exact ⟨_, rfl, hB2.out.size, heap_new _ _, hB2.out.alloc hB2.out.size _⟩
        · go_wp2_with fail
          go_meet
          case rel => exact ⟨_, rfl, Nat.le_refl _, set3 z, below_set (below_set (below_set hB2.out (Nat.le_refl _) _ _) (Nat.le_refl _) _ _) (Nat.le_refl _) _ _⟩
      case rest =>
        obtain ⟨bp, rfl, hbp, hbox, hbel⟩ := hcut
        obtain ⟨wo, hwo⟩ : ∃ wo, wo = wr := ⟨_, rfl⟩
        subst hwo
        have y6 := (hbel.out.cell (p := ⟨b, o12 + 6, none⟩) hblt).trans x6
        have hel : a.ents.length ≤ 1073741824 := by have := entsW_len a.ents; omega
        go_wp2_with fail
        clear y6
        go_loopw [33] (fun i wr => ∃ (j : Nat) (pao : Option Addr) (pcap : Nat), j ≤ a.ents.length ∧ i = .int .i64 j ∧ Hid (wr.heap[bp]? = some (.cells #[.int .u64 a.prev, .slice pao j pcap, .bool a.pmore] 99 (0, 0))) ∧ Hid (wr.ownsRow wo.heap.size 138 3 (.slice pao j pcap) j ((a.ents.take j).flatMap entCells)) ∧ Hid (Below wo.heap.size wo wr)) (fun i _ => a.ents.length - (intOf i).toNat)
        case atStart => exact ⟨0, none, 0, by omega, rfl, hbox, World.ownsRow_nil _ _ _ _, hbel⟩
        case round =>
          obtain ⟨j, pao, pcap, hj, rfl, hpb, hpo, hpl⟩ := hrel
          clear hbox hbel
          by_cases hjl : j < a.ents.length
          · have y6 := (hpl.out.cell (p := ⟨b, o12 + 6, none⟩) hblt).trans x6
            obtain ⟨b9, off9, cap9, hv9, q91, q92, hcell9⟩ := hka.ents.elem (f := inEnt) (size := 3) (fun _ => rfl) (by omega) (by omega)
            rw [H6.out] at hv9
            simp only [Value.slice.injEq, true_and] at hv9
            obtain ⟨rfl, rfl⟩ := hv9
            have hc9 := fun i u h => (hpl.out.cell (World.block_lt_of_cell? wo _ ((mk.old.cell (World.block_lt_of_cell? w _ (hcell9 j hjl i u h))).trans (hcell9 j hjl i u h)))).trans ((mk.old.cell (World.block_lt_of_cell? w _ (hcell9 j hjl i u h))).trans (hcell9 j hjl i u h))
            have hek := hka.each a.ents[j] (List.getElem_mem hjl)
            have hse : Hid ((a.ents.take (j + 1)).flatMap entCells = (a.ents.take j).flatMap entCells ++ entCells a.ents[j]) := flat_take entCells a.ents j hjl
            clear hcell9
            generalize a.ents[j] = e at hc9 hek hse
            obtain ⟨ao92, cap92, hv92, -⟩ := hek.1
            have z0 : wr.cell? ⟨b9, off9 + j * 3, none⟩ = some (.string e.key) := hc9 0 _ rfl
            have z1 : wr.cell? ⟨b9, off9 + j * 3 + 1, none⟩ = some (.int .u64 e.rev) := hc9 1 _ rfl
            have z2 : wr.cell? ⟨b9, off9 + j * 3 + 2, none⟩ = some (.slice ao92 e.val.length cap92) := by rw [← hv92]; exact hc9 2 _ rfl
            have H92 : Hid (e.vv = .slice ao92 e.val.length cap92) := hv92
            clear hc9 hv92 x0 x1 x2 x3 x4 x5 x6 x7 x8 x9 x10 x11
            generalize hb9 : off9 + j * 3 = o9 at z0 z1 z2
            go_wp2_with fail
            have hS0 : (fun w' : World => w'.cell? ⟨bp, 0, none⟩ = some (.int .u64 a.prev) ∧ w'.cell? ⟨bp, 1, none⟩ = some (.slice pao j pcap) ∧ w'.cell? ⟨bp, 2, none⟩ = some (.bool a.pmore) ∧ w'.cell? ⟨b9, o9, none⟩ = some (.string e.key) ∧ w'.cell? ⟨b9, o9 + 1, none⟩ = some (.int .u64 e.rev) ∧ w'.cell? ⟨b9, o9 + 2, none⟩ = some (.slice ao92 e.val.length cap92)) wr.drew :=
              ⟨cells_of_block hpb.out 0 _ rfl, cells_of_block hpb.out 1 _ rfl, cells_of_block hpb.out 2 _ rfl, z0, z1, z2⟩
            refine wp_region_C (fun w' : World => w'.cell? ⟨bp, 0, none⟩ = some (.int .u64 a.prev) ∧ w'.cell? ⟨bp, 1, none⟩ = some (.slice pao j pcap) ∧ w'.cell? ⟨bp, 2, none⟩ = some (.bool a.pmore) ∧ w'.cell? ⟨b9, o9, none⟩ = some (.string e.key) ∧ w'.cell? ⟨b9, o9 + 1, none⟩ = some (.int .u64 e.rev) ∧ w'.cell? ⟨b9, o9 + 2, none⟩ = some (.slice ao92 e.val.length cap92)) 13 (by kernel_rfl) ?_
            clear z0 z1 z2 y6
            refine wpAnyC_take (i := 0) (v := .agg #[.int .u64 a.prev, .slice pao j pcap, .bool a.pmore]) rfl (by kernel_rfl) (by decide) (by kernel_rfl) (by kernel_rfl) (by kernel_rfl) (by kernel_rfl) (fun _ _ _ h => h) (Or.inl ⟨by rfl, fun w' hw' => ?_⟩) hS0 ?_
            · dsimp only at hw'; go_split_ands; go_simp
            simp only [Act.put, List.setIfInBounds_toArray, List.set_cons_succ]
            refine wpAnyC_takeY (i := 1) (v := (.pointer (some ⟨b9, o9, none⟩))) rfl (by decide) (by kernel_rfl) (by kernel_rfl) (by kernel_rfl) (fun _ _ _ h => h) (Or.inl ⟨by rfl, fun w' _ => ?_⟩) hS0 ?_
            · go_simp
            simp only [Act.put, List.setIfInBounds_toArray, List.set_cons_succ]
            refine wpAnyC_takeY (i := 2) (v := (.pointer (some ⟨b9, o9, none⟩))) rfl (by decide) (by kernel_rfl) (by kernel_rfl) (by kernel_rfl) (fun _ _ _ h => h) (Or.inl ⟨by rfl, fun w' _ => ?_⟩) hS0 ?_
            · go_simp
            simp only [Act.put, List.setIfInBounds_toArray, List.set_cons_succ]
            refine wpAnyC_takeY (i := 3) (v := (.pointer (some ⟨b9, o9, none⟩))) rfl (by decide) (by kernel_rfl) (by kernel_rfl) (by kernel_rfl) (fun _ _ _ h => h) (Or.inl ⟨by rfl, fun w' _ => ?_⟩) hS0 ?_
            · go_simp
            simp only [Act.put, List.setIfInBounds_toArray, List.set_cons_succ]
            refine wpAnyC_take (i := 4) (v := .string e.key) rfl (by kernel_rfl) (by decide) (by kernel_rfl) (by kernel_rfl) (by kernel_rfl) (by kernel_rfl) (fun _ _ _ h => h) (Or.inl ⟨by rfl, fun w' hw' => ?_⟩) hS0 ?_
            · dsimp only at hw'; go_split_ands; go_simp
            simp only [Act.put, List.setIfInBounds_toArray, List.set_cons_succ]
            refine wpAnyC_takeY (i := 5) (v := (.pointer (some ⟨b9, o9, none⟩))) rfl (by decide) (by kernel_rfl) (by kernel_rfl) (by kernel_rfl) (fun _ _ _ h => h) (Or.inl ⟨by rfl, fun w' _ => ?_⟩) hS0 ?_
            · go_simp
            simp only [Act.put, List.setIfInBounds_toArray, List.set_cons_succ]
            refine wpAnyC_takeY (i := 6) (v := (.pointer (some ⟨b9, o9, none⟩))) rfl (by decide) (by kernel_rfl) (by kernel_rfl) (by kernel_rfl) (fun _ _ _ h => h) (Or.inl ⟨by rfl, fun w' _ => ?_⟩) hS0 ?_
            · go_simp
            simp only [Act.put, List.setIfInBounds_toArray, List.set_cons_succ]
            refine wpAnyC_takeY (i := 7) (v := (.pointer (some ⟨b9, o9 + 1, none⟩))) rfl (by decide) (by kernel_rfl) (by kernel_rfl) (by kernel_rfl) (fun _ _ _ h => h) (Or.inl ⟨by rfl, fun w' _ => ?_⟩) hS0 ?_
            · go_simp
            simp only [Act.put, List.setIfInBounds_toArray, List.set_cons_succ]
            refine wpAnyC_take (i := 8) (v := .int .u64 e.rev) rfl (by kernel_rfl) (by decide) (by kernel_rfl) (by kernel_rfl) (by kernel_rfl) (by kernel_rfl) (fun _ _ _ h => h) (Or.inl ⟨by rfl, fun w' hw' => ?_⟩) hS0 ?_
            · dsimp only at hw'; go_split_ands; go_simp
            simp only [Act.put, List.setIfInBounds_toArray, List.set_cons_succ]
            refine wpAnyC_takeY (i := 9) (v := (.pointer (some ⟨b9, o9, none⟩))) rfl (by decide) (by kernel_rfl) (by kernel_rfl) (by kernel_rfl) (fun _ _ _ h => h) (Or.inl ⟨by rfl, fun w' _ => ?_⟩) hS0 ?_
            · go_simp
            simp only [Act.put, List.setIfInBounds_toArray, List.set_cons_succ]
            refine wpAnyC_takeY (i := 10) (v := (.pointer (some ⟨b9, o9, none⟩))) rfl (by decide) (by kernel_rfl) (by kernel_rfl) (by kernel_rfl) (fun _ _ _ h => h) (Or.inl ⟨by rfl, fun w' _ => ?_⟩) hS0 ?_
            · go_simp
            simp only [Act.put, List.setIfInBounds_toArray, List.set_cons_succ]
            refine wpAnyC_takeY (i := 11) (v := (.pointer (some ⟨b9, o9 + 2, none⟩))) rfl (by decide) (by kernel_rfl) (by kernel_rfl) (by kernel_rfl) (fun _ _ _ h => h) (Or.inl ⟨by rfl, fun w' _ => ?_⟩) hS0 ?_
            · go_simp
            simp only [Act.put, List.setIfInBounds_toArray, List.set_cons_succ]
            refine wpAnyC_take (i := 12) (v := .slice ao92 e.val.length cap92) rfl (by kernel_rfl) (by decide) (by kernel_rfl) (by kernel_rfl) (by kernel_rfl) (by kernel_rfl) (fun _ _ _ h => h) (Or.inl ⟨by rfl, fun w' hw' => ?_⟩) hS0 ?_
            · dsimp only at hw'; go_split_ands; go_simp
            simp only [Act.put, List.setIfInBounds_toArray, List.set_cons_succ]
            refine wpAnyC_one (i := 13) (by kernel_rfl) rfl rfl (fun K hK => ?_)
            go_simp
            refine (pageAdd_any wo.heap.size _ pao j pcap a.pmore _ e.key _ ao92 e.val.length cap92 wr.drew hpo.out hpl.out.size (by have := entsW_len a.ents; omega)).mono ?_
            rintro x w5 ⟨g, cap5, rfl, hown5, happ5⟩
            dsimp only
            refine hK _ _ (fun h => absurd h (by decide)) ?_
            clear hK
            have hbx5 := (Keeps.of_app (T := 99) (World.ownsRow.drew hpo.out) happ5 (by decide)) _ _ _ hpb.out
            have t0 := cells_of_block hbx5 0 _ rfl
            have t1 := cells_of_block hbx5 1 _ rfl
            have t2 := cells_of_block hbx5 2 _ rfl
            have f0 := free_of_block hbx5 0
            have f1 := free_of_block hbx5 1
            have f2 := free_of_block hbx5 2
            refine wpAnyC_one (i := 14) (by kernel_rfl) rfl rfl (fun K hK => ?_)
            go_simp
            refine hK _ _ (fun h => absurd h (by decide)) (wpAnyC_done (by kernel_rfl) ?_)
            clear hK
            have hne5 := own_ne hown5 hbx5 (by decide)
            have hB5 : Below wo.heap.size wo w5 := hpl.out.drew.trans (App.belowR (World.ownsRow.drew hpo.out) happ5 hpl.out.size)
            have hbx6 := set3 (x := .int .u64 a.prev) (y := .slice (some ⟨g, 0, none⟩) (j + 1) cap5) (z := .bool a.pmore) hbx5
            have hown6 := ownsRow_setCell_other (ownsRow_setCell_other (ownsRow_setCell_other hown5 (a := ⟨bp, 0, none⟩) hne5 (.int .u64 a.prev)) (a := ⟨bp, 1, none⟩) hne5 (.slice (some ⟨g, 0, none⟩) (j + 1) cap5)) (a := ⟨bp, 2, none⟩) hne5 (.bool a.pmore)
            have hB6 : Hid (Below wo.heap.size wo _) := below_set (below_set (below_set hB5 hbp 0 (.int .u64 a.prev)) hbp 1 (.slice (some ⟨g, 0, none⟩) (j + 1) cap5)) hbp 2 (.bool a.pmore)
            clear hne5 hB5 hbx5 t0 t1 t2 f0 f1 f2 hown5 happ5 hS0
            go_wp2_with fail
            go_roundw
            case rel =>
              refine ⟨j + 1, some ⟨g, 0, none⟩, cap5, by omega, by go_num, hbx6, ?_, hB6⟩
              unfold Hid
              rw [hse.out]
              simpa [entCells, H92.out] using hown6
            case measure => simp [intOf]; omega
          · obtain rfl : j = a.ents.length := by omega
            have y7 := (hpl.out.cell (p := ⟨b, o12 + 7, none⟩) hblt).trans x7
            have y8 := (hpl.out.cell (p := ⟨b, o12 + 8, none⟩) hblt).trans x8
            have y9 := (hpl.out.cell (p := ⟨b, o12 + 9, none⟩) hblt).trans x9
            have y10 := (hpl.out.cell (p := ⟨b, o12 + 10, none⟩) hblt).trans x10
            have y11 := (hpl.out.cell (p := ⟨b, o12 + 11, none⟩) hblt).trans x11
            have hblr : b < wr.heap.size := by have := hpl.out.size; omega
            go_wp2_with fail
            go_cut [9] (fun p wc => ∃ bl : Nat, p = .pointer (some ⟨bl, 0, none⟩) ∧ wr.heap.size ≤ bl ∧ Hid (wc.heap[bl]? = some (.cells #[.int .u64 a.lid, .int .u32 a.ttl, .int .i64 a.rem, .slice ao11 a.keys.length cap11, .bool a.lmore] 106 (0, 0))) ∧ Hid (Below wr.heap.size wr wc))
            case first =>
              clear x0 x1 x2 x3 x4 x5 x6 x7 x8 x9 x10 x11
              have n1 : wr.heap.size ≠ b := by omega
              go_region_held3 (fun w' => w'.cell? ⟨b, o12 + 7, none⟩ = some (.int .u64 a.lid) ∧ w'.cell? ⟨b, o12 + 8, none⟩ = some (.int .u32 a.ttl) ∧ w'.cell? ⟨b, o12 + 9, none⟩ = some (.int .i64 a.rem) ∧ w'.cell? ⟨b, o12 + 10, none⟩ = some (.bool a.lmore) ∧ w'.cell? ⟨b, o12 + 11, none⟩ = some (.slice ao11 a.keys.length cap11)) (go_keep)
                (first | (go_at_call 38; refine (newLease_any _ _ _ _ _ _ _ _).mono ?_; rintro e w2 ⟨rfl, hb2⟩; have hB2 : Below wr.heap.size wr w2 := Below.trans (by first | exact (Below.refl _ _).drew | exact ((Below.refl _ _).alloc (Nat.le_refl _) _).drew) (hb2.mono (by simp)); have v7 := (hB2.cell (p := ⟨b, o12 + 7, none⟩) hblr).trans y7; have v8 := (hB2.cell (p := ⟨b, o12 + 8, none⟩) hblr).trans y8; have v9 := (hB2.cell (p := ⟨b, o12 + 9, none⟩) hblr).trans y9; have v10 := (hB2.cell (p := ⟨b, o12 + 10, none⟩) hblr).trans y10; have v11 := (hB2.cell (p := ⟨b, o12 + 11, none⟩) hblr).trans y11; have n2 : ¬ b = w2.heap.size := (by have := hB2.size; omega); (try (have z := box5 hb2; have z0 := cells_of_block z 0 _ rfl; have z1 := cells_of_block z 1 _ rfl; have z2 := cells_of_block z 2 _ rfl; have z3 := cells_of_block z 3 _ rfl; have z4 := cells_of_block z 4 _ rfl; have f0 := free_of_block z 0; have f1 := free_of_block z 1; have f2 := free_of_block z 2; have f3 := free_of_block z 3; have f4 := free_of_block z 4)); replace hB2 : Hid (Below wr.heap.size wr w2) := hB2; clear hb2))
              · go_wp2_with fail
                go_meet
                case rel => exact ⟨_, rfl, hB2.out.size, heap_new _ _, hB2.out.alloc hB2.out.size _⟩
              · go_wp2_with fail
                go_meet
                case rel => exact ⟨_, rfl, Nat.le_refl _, set5 z, below_set (below_set (below_set (below_set (below_set hB2.out (Nat.le_refl _) _ _) (Nat.le_refl _) _ _) (Nat.le_refl _) _ _) (Nat.le_refl _) _ _) (Nat.le_refl _) _ _⟩
            case rest =>
              obtain ⟨bl, rfl, hbl, hlb, hll⟩ := hcut
              clear y7 y8 y9 y10 y11
              have hwoc : Below wo.heap.size wo wc := hpl.out.trans (hll.out.mono hpl.out.size)
              have mc := mk.later hwoc
              have y0 := (hwoc.cell (p := ⟨b, o12, none⟩) hblt).trans x0
              have y1 := (hwoc.cell (p := ⟨b, o12 + 1, none⟩) hblt).trans x1
              have y2 := (hwoc.cell (p := ⟨b, o12 + 2, none⟩) hblt).trans x2
              have y3 := (hwoc.cell (p := ⟨b, o12 + 3, none⟩) hblt).trans x3
              have hpbc := (Keeps.of_below hll.out) _ _ _ hpb.out
              have hpoc := (Keeps.of_below hll.out).owns hpo.out
              rw [List.take_of_length_le (Nat.le_refl _)] at hpoc
              have hbltc : b < wc.heap.size := by have := hwoc.size; omega
              clear x0 x1 x2 x3 x4 x5 x6 x7 x8 x9 x10 x11 hpb hpo
              have hS0 : (fun w' : World => w'.heap[w1.heap.size]? = some (.cells #[.slice mao ys.length mcap] 95 (0, 0)) ∧ w'.heap[bp]? = some (.cells #[.int .u64 a.prev, .slice pao a.ents.length pcap, .bool a.pmore] 99 (0, 0)) ∧ w'.heap[bl]? = some (.cells #[.int .u64 a.lid, .int .u32 a.ttl, .int .i64 a.rem, .slice ao11 a.keys.length cap11, .bool a.lmore] 106 (0, 0)) ∧ w'.cell? ⟨b, o12, none⟩ = some (.int .u8 a.code) ∧ w'.cell? ⟨b, o12 + 1, none⟩ = some (.bool a.found) ∧ w'.cell? ⟨b, o12 + 2, none⟩ = some (.int .u64 a.rev) ∧ w'.cell? ⟨b, o12 + 3, none⟩ = some (.slice ao3 a.val.length cap3)) wc.drew := ⟨mc.box, hpbc, hlb.out, y0, y1, y2, y3⟩
              have HPO : Hid (wc.ownsRow wo.heap.size 138 3 (.slice pao a.ents.length pcap) a.ents.length (a.ents.flatMap entCells)) := hpoc
              have HBO : Hid (Below wo.heap.size wo wc) := hwoc
              have HLB := show Hid _ from hlb
              have HPB : Hid (wc.heap[bp]? = some (.cells #[.int .u64 a.prev, .slice pao a.ents.length pcap, .bool a.pmore] 99 (0, 0))) := hpbc
              have Y : Hid (wc.cell? ⟨b, o12, none⟩ = some (.int .u8 a.code) ∧ wc.cell? ⟨b, o12 + 1, none⟩ = some (.bool a.found) ∧ wc.cell? ⟨b, o12 + 2, none⟩ = some (.int .u64 a.rev) ∧ wc.cell? ⟨b, o12 + 3, none⟩ = some (.slice ao3 a.val.length cap3)) := ⟨y0, y1, y2, y3⟩
              clear y0 y1 y2 y3 hpbc hpoc hwoc
              go_wp2_with fail
              refine wp_region_C (fun w' : World => w'.heap[w1.heap.size]? = some (.cells #[.slice mao ys.length mcap] 95 (0, 0)) ∧ w'.heap[bp]? = some (.cells #[.int .u64 a.prev, .slice pao a.ents.length pcap, .bool a.pmore] 99 (0, 0)) ∧ w'.heap[bl]? = some (.cells #[.int .u64 a.lid, .int .u32 a.ttl, .int .i64 a.rem, .slice ao11 a.keys.length cap11, .bool a.lmore] 106 (0, 0)) ∧ w'.cell? ⟨b, o12, none⟩ = some (.int .u8 a.code) ∧ w'.cell? ⟨b, o12 + 1, none⟩ = some (.bool a.found) ∧ w'.cell? ⟨b, o12 + 2, none⟩ = some (.int .u64 a.rev) ∧ w'.cell? ⟨b, o12 + 3, none⟩ = some (.slice ao3 a.val.length cap3)) 21 (by kernel_rfl) ?_
              refine wpAnyC_take (i := 0) (v := .agg #[.slice mao ys.length mcap]) rfl (by kernel_rfl) (by decide) (by kernel_rfl) (by kernel_rfl) (by kernel_rfl) (by kernel_rfl) (fun _ _ _ h => h) (Or.inl ⟨by rfl, fun w' hw' => ?_⟩) hS0 ?_
              · obtain ⟨h1, -⟩ := hw'; have t0 := cells_of_block h1 0 _ rfl; go_simp
              simp only [Act.put, List.setIfInBounds_toArray, List.set_cons_succ]
              refine wpAnyC_takeY (i := 1) (v := (.pointer (some ⟨b, o12, none⟩))) rfl (by decide) (by kernel_rfl) (by kernel_rfl) (by kernel_rfl) (fun _ _ _ h => h) (Or.inl ⟨by rfl, fun w' _ => ?_⟩) hS0 ?_
              · go_simp
              simp only [Act.put, List.setIfInBounds_toArray, List.set_cons_succ]
              refine wpAnyC_takeY (i := 2) (v := (.pointer (some ⟨b, o12, none⟩))) rfl (by decide) (by kernel_rfl) (by kernel_rfl) (by kernel_rfl) (fun _ _ _ h => h) (Or.inl ⟨by rfl, fun w' _ => ?_⟩) hS0 ?_
              · go_simp
              simp only [Act.put, List.setIfInBounds_toArray, List.set_cons_succ]
              refine wpAnyC_takeY (i := 3) (v := (.pointer (some ⟨b, o12, none⟩))) rfl (by decide) (by kernel_rfl) (by kernel_rfl) (by kernel_rfl) (fun _ _ _ h => h) (Or.inl ⟨by rfl, fun w' _ => ?_⟩) hS0 ?_
              · go_simp
              simp only [Act.put, List.setIfInBounds_toArray, List.set_cons_succ]
              refine wpAnyC_take (i := 4) (v := .int .u8 a.code) rfl (by kernel_rfl) (by decide) (by kernel_rfl) (by kernel_rfl) (by kernel_rfl) (by kernel_rfl) (fun _ _ _ h => h) (Or.inl ⟨by rfl, fun w' hw' => ?_⟩) hS0 ?_
              · obtain ⟨-, -, -, t0, t1, t2, t3⟩ := hw'; go_simp
              simp only [Act.put, List.setIfInBounds_toArray, List.set_cons_succ]
              refine wpAnyC_takeY (i := 5) (v := (.pointer (some ⟨b, o12, none⟩))) rfl (by decide) (by kernel_rfl) (by kernel_rfl) (by kernel_rfl) (fun _ _ _ h => h) (Or.inl ⟨by rfl, fun w' _ => ?_⟩) hS0 ?_
              · go_simp
              simp only [Act.put, List.setIfInBounds_toArray, List.set_cons_succ]
              refine wpAnyC_takeY (i := 6) (v := (.pointer (some ⟨b, o12, none⟩))) rfl (by decide) (by kernel_rfl) (by kernel_rfl) (by kernel_rfl) (fun _ _ _ h => h) (Or.inl ⟨by rfl, fun w' _ => ?_⟩) hS0 ?_
              · go_simp
              simp only [Act.put, List.setIfInBounds_toArray, List.set_cons_succ]
              refine wpAnyC_takeY (i := 7) (v := (.pointer (some ⟨b, o12 + 1, none⟩))) rfl (by decide) (by kernel_rfl) (by kernel_rfl) (by kernel_rfl) (fun _ _ _ h => h) (Or.inl ⟨by rfl, fun w' _ => ?_⟩) hS0 ?_
              · go_simp
              simp only [Act.put, List.setIfInBounds_toArray, List.set_cons_succ]
              refine wpAnyC_take (i := 8) (v := .bool a.found) rfl (by kernel_rfl) (by decide) (by kernel_rfl) (by kernel_rfl) (by kernel_rfl) (by kernel_rfl) (fun _ _ _ h => h) (Or.inl ⟨by rfl, fun w' hw' => ?_⟩) hS0 ?_
              · obtain ⟨-, -, -, t0, t1, t2, t3⟩ := hw'; go_simp
              simp only [Act.put, List.setIfInBounds_toArray, List.set_cons_succ]
              refine wpAnyC_takeY (i := 9) (v := (.pointer (some ⟨b, o12, none⟩))) rfl (by decide) (by kernel_rfl) (by kernel_rfl) (by kernel_rfl) (fun _ _ _ h => h) (Or.inl ⟨by rfl, fun w' _ => ?_⟩) hS0 ?_
              · go_simp
              simp only [Act.put, List.setIfInBounds_toArray, List.set_cons_succ]
              refine wpAnyC_takeY (i := 10) (v := (.pointer (some ⟨b, o12, none⟩))) rfl (by decide) (by kernel_rfl) (by kernel_rfl) (by kernel_rfl) (fun _ _ _ h => h) (Or.inl ⟨by rfl, fun w' _ => ?_⟩) hS0 ?_
              · go_simp
              simp only [Act.put, List.setIfInBounds_toArray, List.set_cons_succ]
              refine wpAnyC_takeY (i := 11) (v := (.pointer (some ⟨b, o12 + 2, none⟩))) rfl (by decide) (by kernel_rfl) (by kernel_rfl) (by kernel_rfl) (fun _ _ _ h => h) (Or.inl ⟨by rfl, fun w' _ => ?_⟩) hS0 ?_
              · go_simp
              simp only [Act.put, List.setIfInBounds_toArray, List.set_cons_succ]
              refine wpAnyC_take (i := 12) (v := .int .u64 a.rev) rfl (by kernel_rfl) (by decide) (by kernel_rfl) (by kernel_rfl) (by kernel_rfl) (by kernel_rfl) (fun _ _ _ h => h) (Or.inl ⟨by rfl, fun w' hw' => ?_⟩) hS0 ?_
              · obtain ⟨-, -, -, t0, t1, t2, t3⟩ := hw'; go_simp
              simp only [Act.put, List.setIfInBounds_toArray, List.set_cons_succ]
              refine wpAnyC_takeY (i := 13) (v := (.pointer (some ⟨b, o12, none⟩))) rfl (by decide) (by kernel_rfl) (by kernel_rfl) (by kernel_rfl) (fun _ _ _ h => h) (Or.inl ⟨by rfl, fun w' _ => ?_⟩) hS0 ?_
              · go_simp
              simp only [Act.put, List.setIfInBounds_toArray, List.set_cons_succ]
              refine wpAnyC_takeY (i := 14) (v := (.pointer (some ⟨b, o12, none⟩))) rfl (by decide) (by kernel_rfl) (by kernel_rfl) (by kernel_rfl) (fun _ _ _ h => h) (Or.inl ⟨by rfl, fun w' _ => ?_⟩) hS0 ?_
              · go_simp
              simp only [Act.put, List.setIfInBounds_toArray, List.set_cons_succ]
              refine wpAnyC_takeY (i := 15) (v := (.pointer (some ⟨b, o12 + 3, none⟩))) rfl (by decide) (by kernel_rfl) (by kernel_rfl) (by kernel_rfl) (fun _ _ _ h => h) (Or.inl ⟨by rfl, fun w' _ => ?_⟩) hS0 ?_
              · go_simp
              simp only [Act.put, List.setIfInBounds_toArray, List.set_cons_succ]
              refine wpAnyC_take (i := 16) (v := .slice ao3 a.val.length cap3) rfl (by kernel_rfl) (by decide) (by kernel_rfl) (by kernel_rfl) (by kernel_rfl) (by kernel_rfl) (fun _ _ _ h => h) (Or.inl ⟨by rfl, fun w' hw' => ?_⟩) hS0 ?_
              · obtain ⟨-, -, -, t0, t1, t2, t3⟩ := hw'; go_simp
              simp only [Act.put, List.setIfInBounds_toArray, List.set_cons_succ]
              refine wpAnyC_take (i := 17) (v := .agg #[.int .u64 a.prev, .slice pao a.ents.length pcap, .bool a.pmore]) rfl (by kernel_rfl) (by decide) (by kernel_rfl) (by kernel_rfl) (by kernel_rfl) (by kernel_rfl) (fun _ _ _ h => h) (Or.inl ⟨by rfl, fun w' hw' => ?_⟩) hS0 ?_
              · obtain ⟨-, h1, -⟩ := hw'; have t0 := cells_of_block h1 0 _ rfl; have t1 := cells_of_block h1 1 _ rfl; have t2 := cells_of_block h1 2 _ rfl; go_simp
              simp only [Act.put, List.setIfInBounds_toArray, List.set_cons_succ]
              refine wpAnyC_take (i := 18) (v := .agg #[.int .u64 a.lid, .int .u32 a.ttl, .int .i64 a.rem, .slice ao11 a.keys.length cap11, .bool a.lmore]) rfl (by kernel_rfl) (by decide) (by kernel_rfl) (by kernel_rfl) (by kernel_rfl) (by kernel_rfl) (fun _ _ _ h => h) (Or.inl ⟨by rfl, fun w' hw' => ?_⟩) hS0 ?_
              · obtain ⟨-, -, h1, -⟩ := hw'; have t0 := cells_of_block h1 0 _ rfl; have t1 := cells_of_block h1 1 _ rfl; have t2 := cells_of_block h1 2 _ rfl; have t3 := cells_of_block h1 3 _ rfl; have t4 := cells_of_block h1 4 _ rfl; go_simp
              simp only [Act.put, List.setIfInBounds_toArray, List.set_cons_succ]
              refine wpAnyC_one (i := 19) (by kernel_rfl) rfl rfl (fun K hK => ?_)
              go_simp
              refine (newAns_any _ a.found _ ao3 a.val.length cap3 _ pao a.ents.length pcap a.pmore _ _ a.rem a.lmore ao11 a.keys.length cap11 wc.drew).mono ?_
              rintro x w5 ⟨rfl, hb5⟩
              dsimp only
              have hB5 : Below wc.heap.size wc w5 := (Below.refl _ _).drew.trans hb5
              have m5 := mc.later hB5
              have hS5 : (fun w' : World => w'.heap[w1.heap.size]? = some (.cells #[.slice mao ys.length mcap] 95 (0, 0)) ∧ w'.heap[bp]? = some (.cells #[.int .u64 a.prev, .slice pao a.ents.length pcap, .bool a.pmore] 99 (0, 0)) ∧ w'.heap[bl]? = some (.cells #[.int .u64 a.lid, .int .u32 a.ttl, .int .i64 a.rem, .slice ao11 a.keys.length cap11, .bool a.lmore] 106 (0, 0)) ∧ w'.cell? ⟨b, o12, none⟩ = some (.int .u8 a.code) ∧ w'.cell? ⟨b, o12 + 1, none⟩ = some (.bool a.found) ∧ w'.cell? ⟨b, o12 + 2, none⟩ = some (.int .u64 a.rev) ∧ w'.cell? ⟨b, o12 + 3, none⟩ = some (.slice ao3 a.val.length cap3)) w5 := ⟨m5.box, (Keeps.of_below hB5) _ _ _ HPB.out, (Keeps.of_below hB5) _ _ _ hlb.out, (hB5.cell (p := ⟨b, o12, none⟩) hbltc).trans Y.out.1, (hB5.cell (p := ⟨b, o12 + 1, none⟩) hbltc).trans Y.out.2.1, (hB5.cell (p := ⟨b, o12 + 2, none⟩) hbltc).trans Y.out.2.2.1, (hB5.cell (p := ⟨b, o12 + 3, none⟩) hbltc).trans Y.out.2.2.2⟩
              refine hK _ _ (fun _ => hS5) ?_
              clear hK hb5
              refine wpAnyC_one (i := 20) (by kernel_rfl) rfl rfl (fun K hK => ?_)
              go_simp
              refine (fwdAdd_any w.heap.size mao ys.length mcap _ _ a.found _ ao3 a.val.length cap3 _ pao a.ents.length pcap a.pmore _ _ a.rem a.lmore ao11 a.keys.length cap11 w5 m5.row m5.old.size (by omega)).mono ?_
              rintro x w6 ⟨g, cap6', rfl, hown6, happ6⟩
              dsimp only
              have hS6 : (fun w' : World => w'.heap[w1.heap.size]? = some (.cells #[.slice mao ys.length mcap] 95 (0, 0)) ∧ w'.heap[bp]? = some (.cells #[.int .u64 a.prev, .slice pao a.ents.length pcap, .bool a.pmore] 99 (0, 0)) ∧ w'.heap[bl]? = some (.cells #[.int .u64 a.lid, .int .u32 a.ttl, .int .i64 a.rem, .slice ao11 a.keys.length cap11, .bool a.lmore] 106 (0, 0)) ∧ w'.cell? ⟨b, o12, none⟩ = some (.int .u8 a.code) ∧ w'.cell? ⟨b, o12 + 1, none⟩ = some (.bool a.found) ∧ w'.cell? ⟨b, o12 + 2, none⟩ = some (.int .u64 a.rev) ∧ w'.cell? ⟨b, o12 + 3, none⟩ = some (.slice ao3 a.val.length cap3)) w6 := by
                have hbel6 := App.belowR m5.row happ6 m5.old.size
                exact ⟨(Keeps.of_app m5.row happ6 (by decide)) _ _ _ m5.box, (Keeps.of_app m5.row happ6 (by decide)) _ _ _ hS5.2.1, (Keeps.of_app m5.row happ6 (by decide)) _ _ _ hS5.2.2.1, (hbel6.cell (p := ⟨b, o12, none⟩) hbw).trans hS5.2.2.2.1, (hbel6.cell (p := ⟨b, o12 + 1, none⟩) hbw).trans hS5.2.2.2.2.1, (hbel6.cell (p := ⟨b, o12 + 2, none⟩) hbw).trans hS5.2.2.2.2.2.1, (hbel6.cell (p := ⟨b, o12 + 3, none⟩) hbw).trans hS5.2.2.2.2.2.2⟩
              refine hK _ _ (fun _ => hS6) ?_
              clear hK
              have hok : okB w w5 { a with ev := .slice pao a.ents.length pcap } :=
                ⟨hka.code, hka.rev, hka.val, hka.prev, (Keeps.of_below hB5).owns (owns_base HPO.out mk.old.size), hka.each, hka.lid, hka.ttl, hka.rem1, hka.rem2, hka.keys⟩
              have m6 := m5.add hok (by simpa [ansCells, H3.out, H11.out] using hown6) happ6
              have t0 := cells_of_block hS6.1 0 _ rfl
              have f0 := free_of_block hS6.1 0
              have he' : Hid (encAns { a with ev := .slice pao a.ents.length pcap } = encAns a) := rfl
              have hw' : Hid (ansW { a with ev := .slice pao a.ents.length pcap } = ansW a) := rfl
              generalize { a with ev := .slice pao a.ents.length pcap } = y at m6 he' hw'
              clear hS0 hS5 hS6 hok m5 mc hown6 happ6 HPO HBO HLB HPB Y hB5
              refine wpAnyC_one (i := 21) (by kernel_rfl) rfl rfl (fun K hK => ?_)
              go_simp
              refine hK _ _ (fun h => absurd h (by decide)) (wpAnyC_done (by kernel_rfl) ?_)
              clear hK t0 f0
              go_wp2_with fail
              go_roundw
              case rel =>
                refine ⟨ys ++ [y], _, _, by simp; omega, by simp, m6, ?_, ?_⟩
                · unfold Hid
                  rw [List.length_append, List.flatMap_append, henc.out]
                  simp only [List.length_cons, List.length_nil, Nat.zero_add, List.flatMap_cons, List.flatMap_nil, List.append_nil]
                  rw [hsn.out, he'.out]
                · unfold Hid
                  rw [List.length_append, allW_append, hall.out]
                  simp only [List.length_cons, List.length_nil, Nat.zero_add, allW, Nat.add_zero]
                  rw [hsa.out, hw'.out]
              case measure => simp [intOf]; omega
    · have c0 := cells_of_block mk.box 0 _ rfl
      go_wp2_with fail
      refine (encFwd_any wr mao ys.length mcap ys rfl (Rd.of_owns mk.row) (fun y hy => (mk.each y hy).okP mk.old) ?_).mono ?_
      · rw [hall.out, List.take_of_length_le (by omega)]; omega
      rintro e w3 ⟨v3, rfl, hb3, hB3⟩
      have hb4 : Buf w3 w.heap.size v3 (encAll xs) := by
        have h1 := owns_base hb3 mk.old.size
        have h2 : encAll ys = encAll xs := by
          unfold encAll
          rw [henc.out, List.take_of_length_le (by omega), show ys.length = xs.length by omega]
        rw [h2] at h1
        exact h1
      have hB4 : Below w.heap.size w w3 := mk.old.trans (hB3.mono mk.old.size)
      clear hb3 hB3 c0
      go_wp2_with fail
      go_ret
      exact ⟨_, rfl, hb4, hB4⟩
end Go.Proofs.Qxb6616714a
