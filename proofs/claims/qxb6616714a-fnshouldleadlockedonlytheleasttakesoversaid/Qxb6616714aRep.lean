import Derived.Test.Qxb6616714aFew
namespace Go.Proofs.Qxb6616714a
open Go.RowKit Go.Maps

def hvR (v : Value) : Option (DataW Value × List MemPlace) := some (.held v, [])
/-- block b of w is a map that reads, at the key p, as a slice of the numbers f p -/
def MapAt (w : World) (m : Value) (f : Nat → List Nat) : Prop :=
  ∃ b n D, m = .map (some b) ∧ w.ownsMap Try.prog 25 hvR b n D ∧ ∀ p : Nat, p < 4294967296 → ∀ v, D.atKey (.int .u32 p) (.held (.slice none 0 0)) = .held v → Nums w v (f p)

theorem MapAt.later {w w' : World} {m : Value} {f : Nat → List Nat} (h : MapAt w m f) (hb : Below w.heap.size w w') : MapAt w' m f := by
  obtain ⟨b, n, D, h1, h2, h3⟩ := h
  exact ⟨b, n, D, h1, h2.kept (row := none) ⟨hb.os, hb.tape, hb.output, hb.size, fun k hk _ => hb.block k hk⟩ (by simp), fun p hp v hv => (h3 p hp v hv).later hb⟩

theorem MapAt.look {w : World} {m : Value} {f : Nat → List Nat} (h : MapAt w m f) {p : Nat} (hp : p < 4294967296) :
    ∃ v, (Instr.lookup 28 m (.int .u32 p) false).run Try.prog w = .ok v w ∧ Nums w v (f p) := by
  obtain ⟨b, n, D, rfl, h2, h3⟩ := h
  obtain ⟨v, ps, hrun, hv⟩ := h2.lookup (t := 28) (e := 22) law25 Try.underlying28 (zero22 w) (zd := .held (.slice none 0 0)) (zp := []) rfl (key25 hp)
  simp only [hvR, Option.some.injEq, Prod.mk.injEq] at hv
  exact ⟨v, hrun, h3 p hp v hv.1.symm⟩

section
variable {w : World} {bl db id : Nat} {pv : Value} {size timeout : Int} {known : Bool} {lid : Nat} {s1 : Int} {n1 : Nat} {m : Value}

def backs (f : Nat → List Nat) (x : Nat) (p : Nat) : Bool := decide (p ≠ x) && (f p).contains x

theorem count_snoc (q : Nat → Bool) {l : List Nat} {k : Nat} (hk : k < l.length) : (l.take (k + 1)).countP q = (l.take k).countP q + (if q l[k] then 1 else 0) := by
  rw [List.take_succ_eq_append_getElem hk, List.countP_append]
  simp [List.countP_cons]

set_option maxHeartbeats 1000000 in
set_option maxRecDepth 20000 in
theorem suspected_any (f : Nat → List Nat) (l : List Nat) (x : Nat) (hx : x < 4294967296) (hl : ∀ x ∈ l, x < 4294967296) (hp : Nums w pv l) (hm : MapAt w m f) (hlen : l.length ≤ 65536) (h : LeadAt w bl db id pv size timeout known lid s1 n1 m) (h1 : -9223372036854775808 ≤ size) (h2 : size ≤ 9223372036854775807) :
    Calls Try.prog 53 #[.pointer (some ⟨bl, 0, none⟩), .int .u32 x] w fun e w' => e = .returned (.bool (Maj (l.countP (backs f x)) size)) ∧ w' = w := by
  have HP : Hid (Nums w pv l) := hp
  have HM : Hid (MapAt w m f) := hm
  have HL : Hid (∀ x ∈ l, x < 4294967296) := hl
  obtain ⟨ao, cap, rfl, g1, g2, g3, g4⟩ := hp
  obtain ⟨b0, _, _, rfl, _, _⟩ := hm
  obtain ⟨c0, c2, c3, c4, c8, c10, c11, c12, c13, c14, c15, det⟩ := h
  clear c0 c4 c10 c11 c12 c13 c14 g3 g4 hl
  unfold maxLen at g2
  go_enter Try.func53, Try.ntmps53
  go_wp2_with (go_at_call 54; refine (suspects_any _ db x hx det).mono ?_; rintro e w2 ⟨rfl, hw2⟩; rw [hw2]; clear hw2 w2)
  go_loopw [5, 21] (fun n i wr => ∃ k c : Nat, k ≤ l.length ∧ i = .int .i64 k ∧ n = .int .i64 c ∧ c ≤ k ∧ Hid (c = (l.take k).countP (backs f x)) ∧ wr = w) (fun _ i _ => l.length - (intOf i).toNat)
  case atStart => exact ⟨0, 0, by omega, by go_num, by go_num, by omega, by simp [Hid], rfl⟩
  case round =>
    obtain ⟨k, c, hk, rfl, rfl, hck, hcc, rfl⟩ := hrel
    by_cases hlt : k < l.length
    case neg =>
      obtain rfl : k = l.length := by omega
      go_wp2_with (go_at_call 58; refine (maj_any _ _ size h1 h2).mono ?_; rintro e w2 ⟨rfl, hw2⟩; rw [hw2]; clear hw2 w2)
      go_ret
      have := hcc.out
      rw [List.take_of_length_le (Nat.le_refl _)] at this
      exact ⟨by rw [← this]; rfl, rfl⟩
    obtain ⟨b, off, cap', hv, q1, q2, hcell⟩ := HP.out.elem (by omega)
    simp only [Value.slice.injEq, true_and] at hv
    obtain ⟨rfl, rfl⟩ := hv
    have hc := hcell k hlt
    have hb := HL.out _ (List.getElem_mem hlt)
    clear hcell
    obtain ⟨rv, hrun, hrd⟩ := HM.out.look hb
    replace hrd : Hid (Nums wr rv (f l[k])) := hrd
    have hsn : Hid ((l.take (k + 1)).countP (backs f x) = (l.take k).countP (backs f x) + (if backs f x l[k] then 1 else 0)) := count_snoc _ hlt
    by_cases he : l[k] = x
    · have e0 : Hid (backs f x l[k] = false) := by simp [Hid, backs, he]
      have he' : (l[k] : Int) = x := by omega
      go_wp2_with (first | (go_at_call 54; refine (suspects_any _ db l[k] hb det).mono ?_; rintro e w2 ⟨rfl, hw2⟩; rw [hw2]; clear hw2 w2) | (go_at_call 62; refine (contains_any _ rv (f l[k]) x hrd.out).mono ?_; rintro e w2 ⟨rfl, hw2⟩; rw [hw2]; clear hw2 w2))
      go_roundw
      case rel => exact ⟨k + 1, c, by omega, by go_num, by go_num, by omega, by unfold Hid; rw [hsn.out, e0.out, ← hcc.out]; rfl, trivial⟩
      case measure => simp [intOf]; omega
    · have he' : (l[k] : Int) ≠ x := by omega
      cases hco : (f l[k]).contains x
      · have e0 : Hid (backs f x l[k] = false) := by unfold Hid backs; rw [hco]; simp
        go_wp2_with (first | (go_at_call 54; refine (suspects_any _ db l[k] hb det).mono ?_; rintro e w2 ⟨rfl, hw2⟩; rw [hw2]; clear hw2 w2) | (go_at_call 62; refine (contains_any _ rv (f l[k]) x hrd.out).mono ?_; rintro e w2 ⟨rfl, hw2⟩; rw [hw2]; clear hw2 w2; rw [hco]))
        go_roundw
        case rel => exact ⟨k + 1, c, by omega, by go_num, by go_num, by omega, by unfold Hid; rw [hsn.out, e0.out, ← hcc.out]; rfl, trivial⟩
        case measure => simp [intOf]; omega
      · have e0 : Hid (backs f x l[k] = true) := by unfold Hid backs; rw [hco]; simp [he]
        go_wp2_with (first | (go_at_call 54; refine (suspects_any _ db l[k] hb det).mono ?_; rintro e w2 ⟨rfl, hw2⟩; rw [hw2]; clear hw2 w2) | (go_at_call 62; refine (contains_any _ rv (f l[k]) x hrd.out).mono ?_; rintro e w2 ⟨rfl, hw2⟩; rw [hw2]; clear hw2 w2; rw [hco]))
        go_roundw
        case rel => exact ⟨k + 1, c + 1, by omega, by go_num, by go_num, by omega, by unfold Hid; rw [hsn.out, e0.out, ← hcc.out]; rfl, trivial⟩
        case measure => simp [intOf]; omega
end
end Go.Proofs.Qxb6616714a
