import Derived.Test.Qxb6616714aEncode
namespace Go.Proofs.Qxb6616714a
open Go.RowKit

theorem info138 : (Try.prog.info? 138).map (fun i => (i.zero, i.size, i.bytes)) = some (some (.agg #[.string ByteArray.empty, .slice none 0 0, .int .u64 0]), 3, 48) := by kernel_rfl
theorem info110 : (Try.prog.info? 110).map (fun i => (i.zero, i.size, i.bytes)) = some (some (.agg #[.int .u8 0, .bool false, .int .u64 0, .slice none 0 0, .int .u64 0, .slice none 0 0, .bool false, .int .u64 0, .int .u32 0, .int .i64 0, .slice none 0 0, .bool false]), 12, 136) := by kernel_rfl

/-- AT THE OPERATION: 'append(xs, E{..})': one element of 'size' cells -/
theorem wpList_elem {ops : Array Oper} {rest : List Oper} {o : Oper} {a : Act} {Q : Exit → Act → World → Prop} (hgd : o.guard = none) (s x : Operand) (t : TypeId)
    (ho : o.op = .call { callee := .builtin .append, args := #[s, x], argTypes := #[t, t] }) (e size bytes : Nat) (z : Value) (ht : Try.prog.underlying t = some (.slice e))
    (hinfo : (Try.prog.info? e).map (fun i => (i.zero, i.size, i.bytes)) = some (some z, size, bytes)) (hz : z.cells.size = size) (hs0 : 0 < size) (hby : bytes ≤ 1000)
    (w : World) (base : Nat) (v : Value) (n : Nat) (xs : List Value) (hown : w.ownsRow base e size v n xs) (hB : base ≤ w.heap.size) (hn : n ≤ 1073741824)
    (cs : Array Value) (hcs : cs.size = size) (hone : ∀ u ∈ cs.toList, u.oneCell' = true)
    (H : Nat) (hH : H = w.heap.size) (hs : a.eval s = v) (hx : a.eval x = .slice (some ⟨H, 0, none⟩) 1 1)
    (h : ∀ g cap w', w'.ownsRow base e size (.slice (some ⟨g, 0, none⟩) (n + 1) cap) (n + 1) (xs ++ cs.toList) → App w v w' (.slice (some ⟨g, 0, none⟩) (n + 1) cap) → w.heap.size < w'.heap.size → (v.ownBlock = some g ∨ w.heap.size < g) →
      (∀ k, k ≤ w.heap.size → some k ≠ v.ownBlock → w'.heap[k]? = (w.alloc (.cells cs e)).heap[k]?) →
      wpList Try.prog ops Q rest (a.put o.dst (.slice (some ⟨g, 0, none⟩) (n + 1) cap)) w') :
    wpList Try.prog ops Q (o :: rest) a (w.alloc (.cells cs e)) := by
  obtain ⟨i0, hi, hz0, hz1, hz2⟩ := info_parts hinfo
  subst hH
  have hmul : (n + 1) * bytes ≤ 140737488355328 := Nat.le_trans (Nat.mul_le_mul (Nat.succ_le_succ hn) hby) (by omega)
  refine wpList_append_lies _ hgd s x t ho base e i0 z size bytes ht hi hz0 hz1 hz2 hz hs0 v n xs hs (World.ownsRow.alloc hown _) ⟨w.heap.size, 0, none⟩ 1 1 cs.toList hx (by simp [hcs]) (World.news_of_block (heap_new w _)) hone (by omega) ?_ hmul ?_ _ rfl ?_
  · unfold maxLen; omega
  · simp; omega
  · intro g cap w' hown' hgrow hat _
    refine h g cap w' hown' ((App.alloc w v _).trans ⟨hgrow, ?_⟩) (by have := hgrow.size; simp at this; omega) ?_ ?_
    · rcases hat with hat | hat
      · exact Or.inl hat.symm
      · exact Or.inr fun k hk => by simp [Value.ownBlock] at hk; omega
    · rcases hat with hat | hat
      · exact Or.inl hat
      · right; simp at hat; omega
    · intro k hk hne
      exact hgrow.block k (by simp; omega) hne

theorem App.setCell {w w' : World} {v v' : Value} (h : App w v w' v') {p : Addr} (hp : w.heap.size ≤ p.block) (u : Value) : App w v (w'.setCell p u) v' := by
  obtain ⟨g, a⟩ := h
  refine ⟨⟨g.os, g.tape, g.output, ?_, fun k hk hne => ?_⟩, a⟩
  · have := g.size; simpa [World.setCell] using this
  · rw [Below.heap_setCell _ _ _ _ (by omega)]
    exact g.block k hk hne

set_option maxRecDepth 20000 in
theorem newMsg_any (w : World) : Calls Try.prog 35 #[] w fun e w' => e = .returned (.agg #[.slice none 0 0]) ∧ Below w.heap.size w w' := by
  go_enter Try.func35, Try.ntmps35
  go_wp2
  exact bodyPost_ret (v := .agg #[.slice none 0 0]) (by simp [results, Try.results35, go_sem]) rfl ⟨rfl, (Below.refl _ _).alloc (Nat.le_refl _) _⟩

set_option maxRecDepth 20000 in
theorem newPage_any (rev : Int) (more : Bool) (w : World) : Calls Try.prog 36 #[.int .u64 rev, .bool more] w fun e w' => e = .returned (.agg #[.int .u64 rev, .slice none 0 0, .bool more]) ∧ Below w.heap.size w w' := by
  go_enter Try.func36, Try.ntmps36
  go_wp2
  exact bodyPost_ret (v := .agg #[.int .u64 rev, .slice none 0 0, .bool more]) (by simp [results, Try.results36, go_sem]) rfl ⟨rfl, (Below.refl _ _).alloc (Nat.le_refl _) _⟩

set_option maxRecDepth 20000 in
theorem newLease_any (lid ttl rem : Int) (more : Bool) (ao : Option Addr) (n c : Nat) (w : World) :
    Calls Try.prog 38 #[.int .u64 lid, .int .u32 ttl, .int .i64 rem, .bool more, .slice ao n c] w fun e w' => e = .returned (.agg #[.int .u64 lid, .int .u32 ttl, .int .i64 rem, .slice ao n c, .bool more]) ∧ Below w.heap.size w w' := by
  go_enter Try.func38, Try.ntmps38
  go_wp2
  exact bodyPost_ret (v := .agg #[.int .u64 lid, .int .u32 ttl, .int .i64 rem, .slice ao n c, .bool more]) (by simp [results, Try.results38, go_sem]) rfl ⟨rfl, (Below.refl _ _).alloc (Nat.le_refl _) _⟩

set_option maxRecDepth 20000 in
theorem newAns_any (code : Int) (found : Bool) (rev : Int) (ao : Option Addr) (n c : Nat) (prev : Int) (ao1 : Option Addr) (n1 c1 : Nat) (pmore : Bool) (lid ttl rem : Int) (lmore : Bool) (ao2 : Option Addr) (n2 c2 : Nat) (w : World) :
    Calls Try.prog 40 #[.int .u8 code, .bool found, .int .u64 rev, .slice ao n c, .agg #[.int .u64 prev, .slice ao1 n1 c1, .bool pmore], .agg #[.int .u64 lid, .int .u32 ttl, .int .i64 rem, .slice ao2 n2 c2, .bool lmore]] w fun e w' =>
      e = .returned (.agg #[.int .u8 code, .bool found, .int .u64 rev, .slice ao n c, .int .u64 prev, .slice ao1 n1 c1, .bool pmore, .int .u64 lid, .int .u32 ttl, .int .i64 rem, .slice ao2 n2 c2, .bool lmore]) ∧ Below w.heap.size w w' := by
  go_enter Try.func40, Try.ntmps40
  go_wp2
  exact bodyPost_ret (v := .agg #[.int .u8 code, .bool found, .int .u64 rev, .slice ao n c, .int .u64 prev, .slice ao1 n1 c1, .bool pmore, .int .u64 lid, .int .u32 ttl, .int .i64 rem, .slice ao2 n2 c2, .bool lmore]) (by simp [results, Try.results40, go_sem]) rfl ⟨rfl, (((Below.refl _ _).alloc (Nat.le_refl _) _).alloc (by simp) _).alloc (by simp; omega) _⟩

theorem blocks3 {w : World} {A B C : Obj} {w' : World} {row : Option Nat} (hblk : ∀ k, k ≤ ((w.alloc A).alloc B).heap.size → some k ≠ row → w'.heap[k]? = (((w.alloc A).alloc B).alloc C).heap[k]?) (hb : ∀ k, w.heap.size ≤ k → some k ≠ row) :
    w'.heap[w.heap.size]? = some A ∧ w'.heap[w.heap.size + 1]? = some B := by
  constructor
  · rw [hblk _ (by simp; omega) (hb _ (by omega))]
    show (((w.heap.push A).push B).push C)[w.heap.size]? = _
    simp only [Array.getElem?_push, Array.size_push]
    rw [if_neg (by omega), if_neg (by omega), if_pos trivial]
  · rw [hblk _ (by simp) (hb _ (by omega))]
    show (((w.heap.push A).push B).push C)[w.heap.size + 1]? = _
    simp only [Array.getElem?_push, Array.size_push]
    rw [if_neg (by omega), if_pos trivial]
theorem free_of_block {w : World} {k : Nat} {cs : Array Value} {T : TypeId} (h : w.heap[k]? = some (.cells cs T (0, 0))) (j : Nat) : w.frozen? ⟨k, j, none⟩ = false := by simp [World.frozen?, h]

set_option maxHeartbeats 1000000 in
set_option maxRecDepth 20000 in
theorem pageAdd_any (base : Nat) (prev : Int) (ao : Option Addr) (n cap : Nat) (more : Bool) (xs : List Value) (key : ByteArray) (rev : Int) (ao1 : Option Addr) (n1 c1 : Nat) (w : World)
    (hown : w.ownsRow base 138 3 (.slice ao n cap) n xs) (hB : base ≤ w.heap.size) (hn : n ≤ 1073741824) :
    Calls Try.prog 37 #[.agg #[.int .u64 prev, .slice ao n cap, .bool more], .string key, .int .u64 rev, .slice ao1 n1 c1] w fun e w' => ∃ g cap', e = .returned (.agg #[.int .u64 prev, .slice (some ⟨g, 0, none⟩) (n + 1) cap', .bool more]) ∧
      w'.ownsRow base 138 3 (.slice (some ⟨g, 0, none⟩) (n + 1) cap') (n + 1) (xs ++ [.string key, .slice ao1 n1 c1, .int .u64 rev]) ∧ App w (.slice ao n cap) w' (.slice (some ⟨g, 0, none⟩) (n + 1) cap') := by
  have hbl : ∀ k, w.heap.size ≤ k → some k ≠ (Value.slice ao n cap).ownBlock := fun k hk e => by have := (hown.lt k e.symm).2; omega
  have hown2 := (hown.alloc (.cells #[.int .u64 prev, .slice ao n cap, .bool more] 99)).alloc (.cells #[.int .u64 0, .slice none 0 0, .bool false] 99)
  have HO : Hid (((w.alloc (.cells #[.int .u64 prev, .slice ao n cap, .bool more] 99)).alloc (.cells #[.int .u64 0, .slice none 0 0, .bool false] 99)).ownsRow base 138 3 (.slice ao n cap) n xs) := hown2
  have HB : Hid (∀ k, w.heap.size ≤ k → some k ≠ (Value.slice ao n cap).ownBlock) := hbl
  clear hown hown2 hbl
  go_enter Try.func37, Try.ntmps37
  go_wp2_with (at_builtin; refine wpList_elem rfl _ _ 97 rfl 138 3 48 _ Try.underlying97 info138 rfl (by omega) (by omega) ((w.alloc (.cells #[.int .u64 prev, .slice ao n cap, .bool more] 99)).alloc (.cells #[.int .u64 0, .slice none 0 0, .bool false] 99)) base _ n xs HO.out (by simp; omega) hn _ rfl (by simp [Value.oneCell']) (w.heap.size + 2) (by simp) rfl rfl ?_; intro g cap' w' hown' happ hsz hat hblk; obtain ⟨hb1, hb2⟩ := blocks3 hblk HB.out; have d0 := cells_of_block hb1 0 _ rfl; have d1 := cells_of_block hb1 1 _ rfl; have d2 := cells_of_block hb1 2 _ rfl; have f1 := free_of_block hb1 1; have e0 := cells_of_block hb2 0 _ rfl; have e1 := cells_of_block hb2 1 _ rfl; have e2 := cells_of_block hb2 2 _ rfl; have f20 := free_of_block hb2 0; have f21 := free_of_block hb2 1; have f22 := free_of_block hb2 2; clear hb1 hb2 hblk HO)
  have hsz' : w.heap.size + 2 < w'.heap.size := by simpa using hsz
  have hat' : (Value.slice ao n cap).ownBlock = some g ∨ w.heap.size + 2 < g := by simpa using hat
  have hne : ∀ k, k = w.heap.size ∨ k = w.heap.size + 1 → (Value.slice (some ⟨g, 0, none⟩) (n + 1) cap').ownBlock ≠ some k := by
    intro k hk e
    simp [Value.ownBlock] at e
    rcases hat' with h | h
    · exact HB.out g (by omega) h.symm
    · omega
  refine bodyPost_ret (v := .agg #[.int .u64 prev, .slice (some ⟨g, 0, none⟩) (n + 1) cap', .bool more]) (by simp [results, Try.results37, go_sem, e0, e1, e2]) rfl ⟨g, cap', rfl, ?_, ?_⟩
  · exact ownsRow_setCell_other (ownsRow_setCell_other (ownsRow_setCell_other (ownsRow_setCell_other hown' (hne _ (by simp)) _) (hne _ (by simp)) _) (hne _ (by simp)) _) (hne _ (by simp)) _
  · exact (((((App.alloc w _ _).trans ((App.alloc _ _ _).trans happ)).setCell (by simp) _).setCell (by simp) _).setCell (by simp) _).setCell (by simp) _

theorem blocks4 {w : World} {A B C D : Obj} {w' : World} {row : Option Nat} (hblk : ∀ k, k ≤ (((w.alloc A).alloc B).alloc C).heap.size → some k ≠ row → w'.heap[k]? = ((((w.alloc A).alloc B).alloc C).alloc D).heap[k]?) (hb : ∀ k, w.heap.size ≤ k → some k ≠ row) :
    w'.heap[w.heap.size]? = some A ∧ w'.heap[w.heap.size + 2]? = some C := by
  constructor
  · rw [hblk _ (by simp; omega) (hb _ (by omega))]
    show ((((w.heap.push A).push B).push C).push D)[w.heap.size]? = _
    simp only [Array.getElem?_push, Array.size_push]
    rw [if_neg (by omega), if_neg (by omega), if_neg (by omega), if_pos trivial]
  · rw [hblk _ (by simp) (hb _ (by omega))]
    show ((((w.heap.push A).push B).push C).push D)[w.heap.size + 2]? = _
    simp only [Array.getElem?_push, Array.size_push]
    rw [if_neg (by omega), if_pos trivial]

set_option maxHeartbeats 1000000 in
set_option maxRecDepth 20000 in
theorem fwdAdd_any (base : Nat) (ao : Option Addr) (n cap : Nat) (xs : List Value) (code : Int) (found : Bool) (rev : Int) (ao0 : Option Addr) (n0 c0 : Nat) (prev : Int) (ao1 : Option Addr) (n1 c1 : Nat) (pmore : Bool) (lid ttl rem : Int) (lmore : Bool) (ao2 : Option Addr) (n2 c2 : Nat) (w : World)
    (hown : w.ownsRow base 110 12 (.slice ao n cap) n xs) (hB : base ≤ w.heap.size) (hn : n ≤ 1073741824) :
    Calls Try.prog 39 #[.agg #[.slice ao n cap], .agg #[.int .u8 code, .bool found, .int .u64 rev, .slice ao0 n0 c0, .int .u64 prev, .slice ao1 n1 c1, .bool pmore, .int .u64 lid, .int .u32 ttl, .int .i64 rem, .slice ao2 n2 c2, .bool lmore]] w fun e w' => ∃ g cap', e = .returned (.agg #[.slice (some ⟨g, 0, none⟩) (n + 1) cap']) ∧
      w'.ownsRow base 110 12 (.slice (some ⟨g, 0, none⟩) (n + 1) cap') (n + 1) (xs ++ [.int .u8 code, .bool found, .int .u64 rev, .slice ao0 n0 c0, .int .u64 prev, .slice ao1 n1 c1, .bool pmore, .int .u64 lid, .int .u32 ttl, .int .i64 rem, .slice ao2 n2 c2, .bool lmore]) ∧ App w (.slice ao n cap) w' (.slice (some ⟨g, 0, none⟩) (n + 1) cap') := by
  have hbl : ∀ k, w.heap.size ≤ k → some k ≠ (Value.slice ao n cap).ownBlock := fun k hk e => by have := (hown.lt k e.symm).2; omega
  have hown2 := ((hown.alloc (.cells #[.slice ao n cap] 95)).alloc (.cells #[.int .u8 code, .bool found, .int .u64 rev, .slice ao0 n0 c0, .int .u64 prev, .slice ao1 n1 c1, .bool pmore, .int .u64 lid, .int .u32 ttl, .int .i64 rem, .slice ao2 n2 c2, .bool lmore] 110)).alloc (.cells #[.slice none 0 0] 95)
  have HB : Hid (∀ k, w.heap.size ≤ k → some k ≠ (Value.slice ao n cap).ownBlock) := hbl
  clear hown hbl
  go_enter Try.func39, Try.ntmps39
  go_wp2_with (at_builtin; refine wpList_elem rfl _ _ 93 rfl 110 12 136 _ Try.underlying93 info110 rfl (by omega) (by omega) (((w.alloc (.cells #[.slice ao n cap] 95)).alloc (.cells #[.int .u8 code, .bool found, .int .u64 rev, .slice ao0 n0 c0, .int .u64 prev, .slice ao1 n1 c1, .bool pmore, .int .u64 lid, .int .u32 ttl, .int .i64 rem, .slice ao2 n2 c2, .bool lmore] 110)).alloc (.cells #[.slice none 0 0] 95)) base _ n xs hown2 (by simp; omega) hn _ rfl (by simp [Value.oneCell']) (w.heap.size + 3) (by simp) rfl rfl ?_; intro g cap' w' hown' happ hsz hat hblk; obtain ⟨hb1, hb2⟩ := blocks4 hblk HB.out; have d0 := cells_of_block hb1 0 _ rfl; have f1 := free_of_block hb1 0; have e0 := cells_of_block hb2 0 _ rfl; have f20 := free_of_block hb2 0; clear hb1 hb2 hblk)
  have hat' : (Value.slice ao n cap).ownBlock = some g ∨ w.heap.size + 3 < g := by simpa using hat
  have hne : ∀ k, k = w.heap.size ∨ k = w.heap.size + 2 → (Value.slice (some ⟨g, 0, none⟩) (n + 1) cap').ownBlock ≠ some k := by
    intro k hk e
    simp [Value.ownBlock] at e
    rcases hat' with h | h
    · exact HB.out g (by omega) h.symm
    · omega
  refine bodyPost_ret (v := .agg #[.slice (some ⟨g, 0, none⟩) (n + 1) cap']) (by simp [results, Try.results39, go_sem, e0]) rfl ⟨g, cap', rfl, ?_, ?_⟩
  · exact ownsRow_setCell_other (ownsRow_setCell_other hown' (hne _ (by simp)) _) (hne _ (by simp)) _
  · exact ((((App.alloc w _ _).trans ((App.alloc _ _ _).trans ((App.alloc _ _ _).trans happ))).setCell (by simp) _).setCell (by simp; omega) _)

set_option maxHeartbeats 1000000 in
set_option maxRecDepth 20000 in
theorem encFwd_any (w : World) (ao : Option Addr) (n cap : Nat) (xs : List Ans) (hx : xs.length = n) (hp : Rd w (.slice ao n cap) n (xs.flatMap ansCells)) (he : ∀ a ∈ xs, a.okP w) (hl : allW xs + 128 ≤ 137438953472) :
    Calls Try.prog 41 #[.agg #[.slice ao n cap]] w fun e w' => ∃ v', e = .returned v' ∧ Buf w' w.heap.size v' (encAll xs) ∧ Below w.heap.size w w' := by
  subst hx
  have hbx : Below w.heap.size w (w.alloc (.cells #[.slice ao xs.length cap] 95)) := (Below.refl _ _).alloc (Nat.le_refl _) _
  have hp' := hp.later hbx
  have HE : Hid (∀ a ∈ xs, a.okP (w.alloc (.cells #[.slice ao xs.length cap] 95))) := fun a ha => (he a ha).later hbx
  clear hp he
  go_enter Try.func41, Try.ntmps41
  go_wp2_with fail
  refine (encode_any _ _ xs hp' HE.out hl).mono ?_
  rintro e w1 ⟨v1, rfl, hb1, hB1⟩
  have hb2 : Buf w1 w.heap.size v1 (encAll xs) := by
    refine ⟨hb1.1, ?_⟩
    rcases hb1.2 with h | ⟨g, c, cur, h1, h2, h3⟩
    · exact Or.inl h
    · exact Or.inr ⟨g, c, cur, h1, Nat.le_trans (by simp) h2, h3⟩
  have hB2 : Below w.heap.size w w1 := hbx.trans (hB1.mono (by simp))
  clear hb1 hB1 hp'
  go_wp2_with fail
  go_ret
  exact ⟨_, rfl, hb2, hB2⟩
end Go.Proofs.Qxb6616714a
