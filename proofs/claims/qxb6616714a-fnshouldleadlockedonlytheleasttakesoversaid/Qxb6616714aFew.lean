import Derived.Test.Qxb6616714aData
import Derived.Test.Qxb6616714aSub
import Derived.Maps.OwnSet
import Derived.Deep.QuietTactic
import Derived.BigQuiet
import Derived.WalkSmall
namespace Go.Proofs.Qxb6616714a
open Go.RowKit Go.Maps

def u32c (x : Nat) : List Value := [.int .u32 x]
def Nums (w : World) (v : Value) (l : List Nat) : Prop := Rd w v l.length (l.flatMap u32c)
theorem Nums.later {w w' : World} {v : Value} {l : List Nat} (h : Nums w v l) (hb : Below w.heap.size w w') : Nums w' v l := Rd.later h hb

theorem Nums.elem {w : World} {v : Value} {l : List Nat} (h : Nums w v l) (h0 : 0 < l.length) :
    ∃ b off cap, v = .slice (some ⟨b, off, none⟩) l.length cap ∧ l.length ≤ cap ∧ cap ≤ maxLen ∧ ∀ k (hk : k < l.length), w.cell? ⟨b, off + k, none⟩ = some (.int .u32 (l[k] : Nat)) := by
  obtain ⟨b, off, cap, h1, h2, h3, h4⟩ := Rd.elem (f := u32c) (size := 1) (fun _ => rfl) (by omega) h h0
  refine ⟨b, off, cap, h1, h2, h3, fun k hk => ?_⟩
  have := h4 k hk 0 _ rfl
  simpa using this

theorem take_contains {l : List Nat} {x k : Nat} (hk : k < l.length) (h : (l.take k).contains x = false) (hne : l[k] ≠ x) : (l.take (k + 1)).contains x = false := by
  rw [List.take_succ_eq_append_getElem hk]
  simp only [List.contains_eq_mem, decide_eq_false_iff_not, List.mem_append, List.mem_singleton, not_or] at h ⊢
  exact ⟨h, fun e => hne e.symm⟩

set_option maxHeartbeats 1000000 in
set_option maxRecDepth 20000 in
theorem has_any (w : World) (v : Value) (l : List Nat) (x : Nat) (hp : Nums w v l) :
    Calls Try.prog 14 #[v, .int .u32 x] w fun e w' => e = .returned (.bool (l.contains x)) ∧ w' = w := by
  have HP : Hid (Nums w v l) := hp
  obtain ⟨ao, cap, rfl, g1, g2, g3, g4⟩ := hp
  clear g3 g4
  unfold maxLen at g2
  go_enter Try.func14, Try.ntmps14
  go_wp2
  go_loopw [5] (fun i wr => ∃ k : Nat, k ≤ l.length ∧ i = .int .i64 k ∧ wr = w ∧ Hid ((l.take k).contains x = false)) (fun i _ => l.length - (intOf i).toNat)
  case atStart => exact ⟨0, by omega, by go_num, rfl, by simp [Hid]⟩
  case round =>
    obtain ⟨k, hk, rfl, rfl, hno⟩ := hrel
    by_cases hlt : k < l.length
    case neg =>
      go_wp2
      go_ret
      have h := hno.out
      rw [List.take_of_length_le (by omega)] at h
      exact ⟨by rw [h]; rfl, rfl⟩
    obtain ⟨b, off, cap', hv, q1, q2, hcell⟩ := HP.out.elem (by omega)
    simp only [Value.slice.injEq, true_and] at hv
    obtain ⟨rfl, rfl⟩ := hv
    have hc := hcell k hlt
    clear hcell
    by_cases he : l[k] = x
    · have hc' : wr.cell? ⟨b, off + k, none⟩ = some (.int .u32 (x : Nat)) := by rw [hc, he]
      clear hc
      go_wp2
      go_ret
      refine ⟨?_, rfl⟩
      have : l.contains x = true := by rw [← he]; simp
      rw [this]
      rfl
    · have hn : Hid ((l.take (k + 1)).contains x = false) := take_contains hlt hno.out he
      have he' : (l[k] : Int) ≠ x := by omega
      go_wp2
      go_roundw
      case rel => exact ⟨k + 1, by omega, by go_num, trivial, hn⟩
      case measure => simp [intOf]; omega

set_option maxHeartbeats 1000000 in
set_option maxRecDepth 20000 in
theorem index_any (w : World) (v : Value) (l : List Nat) (x : Nat) (hp : Nums w v l) :
    Calls Try.prog 67 #[v, .int .u32 x] w fun e w' => ∃ r : Int, e = .returned (.int .i64 r) ∧ decide (0 ≤ r) = l.contains x ∧ w' = w := by
  have HP : Hid (Nums w v l) := hp
  obtain ⟨ao, cap, rfl, g1, g2, g3, g4⟩ := hp
  clear g3 g4
  unfold maxLen at g2
  go_enter Try.func67, Try.ntmps67
  go_wp2
  go_loopw [8] (fun i wr => ∃ k : Nat, k ≤ l.length ∧ i = .int .i64 k ∧ wr = w ∧ Hid ((l.take k).contains x = false)) (fun i _ => l.length - (intOf i).toNat)
  case atStart => exact ⟨0, by omega, by go_num, rfl, by simp [Hid]⟩
  case round =>
    obtain ⟨k, hk, rfl, rfl, hno⟩ := hrel
    by_cases hlt : k < l.length
    case neg =>
      go_wp2
      go_ret
      have h := hno.out
      rw [List.take_of_length_le (by omega)] at h
      exact ⟨-1, rfl, by rw [h]; rfl, rfl⟩
    obtain ⟨b, off, cap', hv, q1, q2, hcell⟩ := HP.out.elem (by omega)
    simp only [Value.slice.injEq, true_and] at hv
    obtain ⟨rfl, rfl⟩ := hv
    have hc := hcell k hlt
    clear hcell
    by_cases he : l[k] = x
    · have hc' : wr.cell? ⟨b, off + k, none⟩ = some (.int .u32 (x : Nat)) := by rw [hc, he]
      clear hc
      go_wp2
      go_ret
      refine ⟨k, rfl, ?_, rfl⟩
      have : l.contains x = true := by rw [← he]; simp
      rw [this]
      exact decide_eq_true (by omega)
    · have hn : Hid ((l.take (k + 1)).contains x = false) := take_contains hlt hno.out he
      have he' : (x : Int) ≠ l[k] := by omega
      go_wp2
      go_roundw
      case rel => exact ⟨k + 1, by omega, by go_num, trivial, hn⟩
      case measure => simp [intOf]; omega

set_option maxRecDepth 20000 in
theorem contains_any (w : World) (v : Value) (l : List Nat) (x : Nat) (hp : Nums w v l) :
    Calls Try.prog 62 #[v, .int .u32 x] w fun e w' => e = .returned (.bool (l.contains x)) ∧ w' = w := by
  go_enter Try.func62, Try.ntmps62
  go_wp2_with (go_at_call 67; refine (index_any _ _ l x hp).mono ?_; rintro e w1 ⟨r, rfl, hr, rfl⟩)
  go_ret
  exact ⟨by show Ending.returned (.bool (decide (x ∈ l))) = _; rw [List.contains_eq_mem], rfl⟩

def Maj (n size : Int) : Bool := decide (size.tdiv 2 < n)
set_option maxRecDepth 20000 in
theorem zzMaj_any (w : World) (n size : Int) (h1 : -9223372036854775808 ≤ size) (h2 : size ≤ 9223372036854775807) :
    Calls Try.prog 12 #[.int .i64 n, .int .i64 size] w fun e w' => e = .returned (.bool (Maj n size)) ∧ w' = w := by
  go_enter Try.func12, Try.ntmps12
  go_wp2
  go_ret
  exact ⟨rfl, rfl⟩
set_option maxRecDepth 20000 in
theorem maj_any (w : World) (n size : Int) (h1 : -9223372036854775808 ≤ size) (h2 : size ≤ 9223372036854775807) :
    Calls Try.prog 58 #[.int .i64 size, .int .i64 n] w fun e w' => e = .returned (.bool (Maj n size)) ∧ w' = w := by
  go_enter Try.func58, Try.ntmps58
  go_wp2
  go_ret
  exact ⟨rfl, rfl⟩

set_option maxHeartbeats 1000000 in
set_option maxRecDepth 20000 in
theorem satSub_any (w : World) (a b : Int) (h1 : -9223372036854775808 ≤ a) (h2 : a ≤ 9223372036854775807) (h3 : -9223372036854775808 ≤ b) (h4 : b ≤ 9223372036854775807) :
    Calls Try.prog 13 #[.int .i64 a, .int .i64 b] w fun e w' => e = .returned (.int .i64 (sat64 (a - b))) ∧ w' = w := by
  by_cases c1 : 0 < b
  · by_cases c2 : a < -9223372036854775808 + b
    · go_enter Try.func13, Try.ntmps13
      go_wp2
      go_ret
      exact ⟨by unfold sat64; rw [if_pos (by omega)]; rfl, rfl⟩
    · have c2' : -9223372036854775808 + b ≤ a := by omega
      go_enter Try.func13, Try.ntmps13
      go_wp2
      go_ret
      exact ⟨by unfold sat64; rw [if_neg (by omega), if_neg (by omega)]; rfl, rfl⟩
  · by_cases c3 : b < 0
    · by_cases c2 : 9223372036854775807 + b < a
      · go_enter Try.func13, Try.ntmps13
        go_wp2
        go_ret
        exact ⟨by unfold sat64; rw [if_neg (by omega), if_pos (by omega)]; rfl, rfl⟩
      · have c2' : a ≤ 9223372036854775807 + b := by omega
        go_enter Try.func13, Try.ntmps13
        go_wp2
        go_ret
        exact ⟨by unfold sat64; rw [if_neg (by omega), if_neg (by omega)]; rfl, rfl⟩
    · obtain rfl : b = 0 := by omega
      clear c1 c3
      go_enter Try.func13, Try.ntmps13
      go_wp2
      go_ret
      exact ⟨by unfold sat64; rw [if_neg (by omega), if_neg (by omega), Int.sub_zero]; rfl, rfl⟩

theorem law25 : Keyed Try.prog 25 := int_keyed Try.underlying25
theorem wf32 {p : Nat} (h : p < 4294967296) : (Lit.int .u32 (p : Int)).wf = true := by
  simp [Lit.wf, IntKind.min, IntKind.max, IntKind.signed, IntKind.bits]; omega
theorem key25 {p : Nat} (h : p < 4294967296) : keyOf Try.prog 25 (.int .u32 (p : Int)) = some (.int .u32 p) := keyOf_int_mk Try.underlying25 (wf32 h)

theorem zero143 (w : World) : (zeroValue 143).run Try.prog w = .ok (.pointer none) w := by kernel_rfl
theorem zero22 (w : World) : (zeroValue 22).run Try.prog w = .ok (.slice none 0 0) w := by kernel_rfl

set_option maxHeartbeats 1000000 in
set_option maxRecDepth 20000 in
theorem suspects_any (w : World) (db p : Nat) (hp : p < 4294967296) (hc : w.cell? ⟨db, 8, none⟩ = some (.map none)) :
    Calls Try.prog 54 #[.pointer (some ⟨db, 0, none⟩), .int .u32 p] w fun e w' => e = .returned (.bool false) ∧ w' = w := by
  have hlk := Maps.look_nil (w := w) (P := Try.prog) (k := 25) (t := 70) (e := 143) true law25 Try.underlying70 (zero143 w) (key25 hp)
  simp only [if_true] at hlk
  go_enter Try.func54, Try.ntmps54
  go_wp2
  go_ret
  exact ⟨rfl, rfl⟩

/-- the leadership that is asked -/
structure LeadAt (w : World) (bl db : Nat) (id : Nat) (pv : Value) (size timeout : Int) (known : Bool) (lid : Nat) (s1 : Int) (n1 : Nat) (m : Value) : Prop where
  c0 : w.cell? ⟨bl, 0, none⟩ = some (.int .u32 id)
  c2 : w.cell? ⟨bl, 2, none⟩ = some pv
  c3 : w.cell? ⟨bl, 3, none⟩ = some (.int .i64 size)
  c4 : w.cell? ⟨bl, 4, none⟩ = some (.int .i64 timeout)
  c8 : w.cell? ⟨bl, 8, none⟩ = some (.pointer (some ⟨db, 0, none⟩))
  c10 : w.cell? ⟨bl, 10, none⟩ = some (.int .u32 lid)
  c11 : w.cell? ⟨bl, 11, none⟩ = some (.bool known)
  c12 : w.cell? ⟨bl, 12, none⟩ = some (.int .u64 n1)
  c13 : w.cell? ⟨bl, 13, none⟩ = some (.int .i64 s1)
  c14 : w.cell? ⟨bl, 14, none⟩ = some (.pointer none)
  c15 : w.cell? ⟨bl, 15, none⟩ = some m
  det : w.cell? ⟨db, 8, none⟩ = some (.map none)

theorem LeadAt.later {w w' : World} {bl db id : Nat} {pv : Value} {size timeout : Int} {known : Bool} {lid : Nat} {s1 : Int} {n1 : Nat} {m : Value} (h : LeadAt w bl db id pv size timeout known lid s1 n1 m) (hb : Below w.heap.size w w') : LeadAt w' bl db id pv size timeout known lid s1 n1 m := by
  have key : ∀ {p : Addr} {u : Value}, w.cell? p = some u → w'.cell? p = some u := fun h => (hb.cell (World.block_lt_of_cell? w _ h)).trans h
  exact ⟨key h.c0, key h.c2, key h.c3, key h.c4, key h.c8, key h.c10, key h.c11, key h.c12, key h.c13, key h.c14, key h.c15, key h.det⟩

def leaderOf (known : Bool) (lid : Nat) : Nat := if known then lid else 0

section
variable {w : World} {bl db id : Nat} {pv : Value} {size timeout : Int} {known : Bool} {lid : Nat} {s1 : Int} {n1 : Nat} {m : Value}

set_option maxRecDepth 20000 in
theorem leader_any (h : LeadAt w bl db id pv size timeout known lid s1 n1 m) :
    Calls Try.prog 50 #[.pointer (some ⟨bl, 0, none⟩)] w fun e w' => e = .returned (.int .u32 (leaderOf known lid)) ∧ w' = w := by
  obtain ⟨c0, c2, c3, c4, c8, c10, c11, c12, c13, c14, c15, det⟩ := h
  clear c0 c2 c3 c4 c8 c12 c13 c14 c15 det
  cases known
  · go_enter Try.func50, Try.ntmps50
    go_wp2
    go_ret
    exact ⟨rfl, rfl⟩
  · go_enter Try.func50, Try.ntmps50
    go_wp2
    go_ret
    exact ⟨rfl, rfl⟩

set_option maxHeartbeats 1000000 in
set_option maxRecDepth 20000 in
theorem hears_any (l : List Nat) (hl : ∀ x ∈ l, x < 4294967296) (hp : Nums w pv l) (hlen : l.length ≤ 65536) (h : LeadAt w bl db id pv size timeout known lid s1 n1 m) (h1 : -9223372036854775808 ≤ size) (h2 : size ≤ 9223372036854775807) :
    Calls Try.prog 51 #[.pointer (some ⟨bl, 0, none⟩)] w fun e w' => e = .returned (.bool (Maj (l.length + 1) size)) ∧ w' = w := by
  have HP : Hid (Nums w pv l) := hp
  have HL : Hid (∀ x ∈ l, x < 4294967296) := hl
  obtain ⟨ao, cap, rfl, g1, g2, g3, g4⟩ := hp
  obtain ⟨c0, c2, c3, c4, c8, c10, c11, c12, c13, c14, c15, det⟩ := h
  clear c0 c4 c10 c11 c12 c13 c14 c15 g3 g4 hl
  unfold maxLen at g2
  go_enter Try.func51, Try.ntmps51
  go_wp2
  go_loopw [3, 11] (fun n i wr => ∃ k : Nat, k ≤ l.length ∧ i = .int .i64 k ∧ n = .int .i64 (k + 1) ∧ wr = w) (fun _ i _ => l.length - (intOf i).toNat)
  case atStart => exact ⟨0, by omega, by go_num, by go_num, rfl⟩
  case round =>
    obtain ⟨k, hk, rfl, rfl, rfl⟩ := hrel
    by_cases hlt : k < l.length
    case neg =>
      obtain rfl : k = l.length := by omega
      go_wp2_with (go_at_call 58; refine (maj_any _ _ size h1 h2).mono ?_; rintro e w2 ⟨rfl, rfl⟩)
      go_ret
      exact ⟨rfl, rfl⟩
    obtain ⟨b, off, cap', hv, q1, q2, hcell⟩ := HP.out.elem (by omega)
    simp only [Value.slice.injEq, true_and] at hv
    obtain ⟨rfl, rfl⟩ := hv
    have hc := hcell k hlt
    have hb := HL.out _ (List.getElem_mem hlt)
    clear hcell
    go_wp2_with (go_at_call 54; refine (suspects_any _ db l[k] hb det).mono ?_; rintro e w2 ⟨rfl, rfl⟩)
    go_roundw
    case rel => exact ⟨k + 1, by omega, by go_num, by go_num, trivial⟩
    case measure => simp [intOf]; omega
end
end Go.Proofs.Qxb6616714a
