import Derived.Test.Qxb6616714aRows
import Derived.WalkKit
import Derived.Below
namespace Go.Proofs.Qxb6616714a
open Go.RowKit

theorem wr64t (n : Int) (h₀ : 0 ≤ n) (h₁ : n < 2 ^ 64) : IntKind.u64.wrap n = n := by rw [IntKind.wrap_u64]; omega
theorem mask30 (n : Nat) (h : n < 1073741824) : bits BinOp.and IntKind.u64 (n : Int) 1073741823 = (n : Int) := by
  have := bits_mask .u64 64 (by decide) wr64t 30 (by decide) (n : Int) (by omega) (by omega)
  simp only [show (2 : Int) ^ 30 = 1073741824 from by decide] at this
  rw [show (1073741824 : Int) - 1 = 1073741823 from by decide] at this
  rw [this]
  omega
theorem top63 (n : Nat) (h : n < 1073741824) : bits BinOp.and IntKind.u64 (n : Int) 9223372036854775808 = 0 := by
  have h1 := (bits_nat .u64 64 (by decide) wr64t n 9223372036854775808 (by omega) (by decide)).1
  have e : ((9223372036854775808 : Nat) : Int) = 9223372036854775808 := rfl
  rw [e] at h1
  rw [h1]
  have : n &&& 9223372036854775808 = 0 := by
    apply Nat.eq_of_testBit_eq
    intro i
    rw [Nat.testBit_and, Nat.zero_testBit, show (9223372036854775808 : Nat) = 2 ^ 63 from by decide, Nat.testBit_two_pow]
    by_cases hi : 63 = i
    · subst hi
      rw [Nat.testBit_lt_two_pow (by omega)]
      simp
    · simp [hi]
  rw [this]
  rfl

set_option maxRecDepth 20000 in
theorem nsec_any (w : World) (b : Nat) (ns : Nat) (hns : ns < 1073741824) (hc : w.cell? ⟨b, 0, none⟩ = some (.int .u64 ns)) :
    Calls Try.prog 47 #[.pointer (some ⟨b, 0, none⟩)] w fun e w' => e = .returned (.int .i32 ns) ∧ w' = w := by
  have hm := mask30 ns hns
  go_enter Try.func47, Try.ntmps47
  go_wp2
  go_ret
  exact ⟨rfl, rfl⟩

set_option maxRecDepth 20000 in
theorem sec_any (w : World) (b : Nat) (ns : Nat) (s : Int) (hns : ns < 1073741824) (hc : w.cell? ⟨b, 0, none⟩ = some (.int .u64 ns)) (hc1 : w.cell? ⟨b, 1, none⟩ = some (.int .i64 s)) :
    Calls Try.prog 57 #[.pointer (some ⟨b, 0, none⟩)] w fun e w' => e = .returned (.int .i64 s) ∧ w' = w := by
  have hm := top63 ns hns
  go_enter Try.func57, Try.ntmps57
  go_wp2
  go_ret
  exact ⟨rfl, rfl⟩

set_option maxRecDepth 20000 in
theorem addSec_any (w : World) (b : Nat) (ns : Nat) (s d : Int) (hns : ns < 1073741824) (hc : w.cell? ⟨b, 0, none⟩ = some (.int .u64 ns)) (hc1 : w.cell? ⟨b, 1, none⟩ = some (.int .i64 s)) (hf : w.frozen? ⟨b, 1, none⟩ = false)
    (h1 : -4611686018427387000 ≤ s) (h2 : s ≤ 4611686018427387000) (h3 : -4611686018427387000 ≤ d) (h4 : d ≤ 4611686018427387000) :
    Calls Try.prog 48 #[.pointer (some ⟨b, 0, none⟩), .int .i64 d] w fun e w' => e = .returned (.tuple #[]) ∧ w' = w.setCell ⟨b, 1, none⟩ (.int .i64 (s + d)) := by
  have hm := top63 ns hns
  have hq : (decide (s < s + d) == decide (0 < d)) = true := by
    rw [show decide (s < s + d) = decide (0 < d) from decide_eq_decide.2 (by omega)]
    simp
  go_enter Try.func48, Try.ntmps48
  go_wp2
  go_end0
  exact ⟨rfl, rfl⟩

/-- a time without a monotonic reading: seconds since year 1, nanoseconds -/
def tm (s : Int) (ns : Nat) : Value := .agg #[.int .u64 ns, .int .i64 s, .pointer none]
theorem andnot30 (n : Nat) (h : n < 1073741824) : bits BinOp.andNot IntKind.u64 (n : Int) 1073741823 = 0 := by
  have h0 : (BitVec.ofInt 64 (n : Int) &&& ~~~ BitVec.ofInt 64 1073741823) = 0#64 := by
    rw [BitVec.ofInt_natCast, show BitVec.ofInt 64 1073741823 = BitVec.ofNat 64 (2 ^ 30 - 1) from by decide]
    apply BitVec.eq_of_getLsbD_eq
    intro i hi
    simp only [BitVec.getLsbD_and, BitVec.getLsbD_not, BitVec.getLsbD_ofNat, Nat.testBit_two_pow_sub_one, hi, decide_true, Bool.true_and]
    by_cases h30 : i < 30
    · simp [h30]
    · rw [Nat.testBit_lt_two_pow (Nat.lt_of_lt_of_le h (by
        calc 1073741824 = 2 ^ 30 := by decide
          _ ≤ 2 ^ i := Nat.pow_le_pow_right (by decide) (by omega)))]
      simp
  unfold bits
  show IntKind.u64.wrap ((BitVec.ofInt 64 (n : Int) &&& ~~~ BitVec.ofInt 64 1073741823).toNat : Int) = 0
  rw [h0]
  rfl
theorem or0 (n : Int) (h0 : 0 ≤ n) (h : n < 1073741824) : bits BinOp.or IntKind.u64 0 n = n := by
  have := bits_join .u64 64 (by decide) wr64t 30 0 n (by decide) (by decide) (by decide) h0 (by omega) (by omega)
  omega

theorem wrap32_id (n : Int) (h₀ : -2147483648 ≤ n) (h₁ : n < 2147483648) : wrap32 n = n := by unfold wrap32; omega

set_option maxHeartbeats 1000000 in
set_option maxRecDepth 20000 in
theorem tadd_any (w : World) (s : Int) (ns : Nat) (d : Int) (hns : ns < 1000000000) (h1 : -20000000000 ≤ s) (h2 : s ≤ 20000000000) (h3 : -9223372036854775808 ≤ d) (h4 : d ≤ 9223372036854775807) :
    Calls Try.prog 32 #[tm s ns, .int .i64 d] w fun e w' => ∃ s' ns', e = .returned (tm s' ns') ∧ ns' < 1000000000 ∧ s' * 1000000000 + ns' = s * 1000000000 + ns + d ∧ Below w.heap.size w w' := by
  unfold tm
  have ha := andnot30 ns (by omega)
  have hr2 : d.tmod 1000000000 < 1000000000 := Int.tmod_lt_of_pos _ (by decide)
  have hr1 : (-d).tmod 1000000000 < 1000000000 := Int.tmod_lt_of_pos _ (by decide)
  rw [Int.neg_tmod] at hr1
  have hdm : 1000000000 * d.tdiv 1000000000 + d.tmod 1000000000 = d := Int.mul_tdiv_add_tmod d 1000000000
  go_enter Try.func32, Try.ntmps32
  go_wp2_with fail
  refine (nsec_any _ _ ns (by omega) (by go_simp)).mono ?_
  rintro e w1 ⟨rfl, rfl⟩
  obtain ⟨r, hr⟩ : ∃ r, d.tmod 1000000000 = r := ⟨_, rfl⟩
  rw [hr] at hr1 hr2 hdm
  have e1 := wrap32_id r (by omega) (by omega)
  rw [← hr] at e1
  have e1' : wrap32 (d.tmod 1000000000) = r := by rw [e1, hr]
  clear hr e1
  have hdm' := hdm
  obtain ⟨q, hq⟩ : ∃ q, d.tdiv 1000000000 = q := ⟨_, rfl⟩
  rw [hq] at hdm'
  have hq1 : -9300000000 ≤ q := by omega
  have hq2 : q ≤ 9300000000 := by omega
  rw [← hq] at hq1 hq2
  clear hdm' hq q
  have HD : Hid (1000000000 * d.tdiv 1000000000 + r = d) := hdm
  clear hdm
  have e2 := wrap32_id (ns + r) (by omega) (by omega)
  by_cases c1 : 1000000000 ≤ (ns : Int) + r
  · obtain ⟨n', hn'⟩ : ∃ n' : Nat, (ns : Int) + r - 1000000000 = (n' : Int) := ⟨((ns : Int) + r - 1000000000).toNat, by omega⟩
    have e3 := wrap32_id (n' : Int) (by omega) (by omega)
    have e4 := wr64t (n' : Int) (by omega) (by omega)
    have e5 := or0 (n' : Int) (by omega) (by omega)
    go_wp2_with fail
    have ht := top63 n' (by omega)
    refine (addSec_any _ _ n' s (d.tdiv 1000000000 + 1) (by omega) (by go_simp) (by go_simp) (by go_simp) (by omega) (by omega) (by omega) (by omega)).mono ?_
    rintro e w2 ⟨rfl, rfl⟩
    go_wp2_with fail
    refine bodyPost_ret (v := .agg #[.int .u64 n', .int .i64 (s + (d.tdiv 1000000000 + 1)), .pointer none]) (by simp [results, Try.results32, go_sem]) rfl ⟨s + (d.tdiv 1000000000 + 1), n', rfl, by omega, ?_, ?_⟩
    · have := HD.out
      omega
    · repeat (first | exact Below.refl _ _ | refine Below.alloc ?_ (by simp; done) _ | refine Below.alloc ?_ (by simp; omega) _ | refine Below.setCell ?_ (by simp; done) _ | refine Below.drew ?_)
  · by_cases c2 : (ns : Int) + r < 0
    · obtain ⟨n', hn'⟩ : ∃ n' : Nat, (ns : Int) + r + 1000000000 = (n' : Int) := ⟨((ns : Int) + r + 1000000000).toNat, by omega⟩
      have e3 := wrap32_id (n' : Int) (by omega) (by omega)
      have e4 := wr64t (n' : Int) (by omega) (by omega)
      have e5 := or0 (n' : Int) (by omega) (by omega)
      go_wp2_with fail
      have ht := top63 n' (by omega)
      refine (addSec_any _ _ n' s (d.tdiv 1000000000 - 1) (by omega) (by go_simp) (by go_simp) (by go_simp) (by omega) (by omega) (by omega) (by omega)).mono ?_
      rintro e w2 ⟨rfl, rfl⟩
      go_wp2_with fail
      refine bodyPost_ret (v := .agg #[.int .u64 n', .int .i64 (s + (d.tdiv 1000000000 - 1)), .pointer none]) (by simp [results, Try.results32, go_sem]) rfl ⟨s + (d.tdiv 1000000000 - 1), n', rfl, by omega, ?_, ?_⟩
      · have := HD.out
        omega
      · repeat (first | exact Below.refl _ _ | refine Below.alloc ?_ (by simp; done) _ | refine Below.alloc ?_ (by simp; omega) _ | refine Below.setCell ?_ (by simp; done) _ | refine Below.drew ?_)
    · obtain ⟨n', hn'⟩ : ∃ n' : Nat, (ns : Int) + r = (n' : Int) := ⟨((ns : Int) + r).toNat, by omega⟩
      have e3 : wrap32 (ns + r) = (n' : Int) := by rw [e2, hn']
      have e4 := wr64t (n' : Int) (by omega) (by omega)
      have e5 := or0 (n' : Int) (by omega) (by omega)
      have k1 : n' < 1000000000 := by omega
      have HN : Hid ((ns : Int) + r = (n' : Int)) := hn'
      clear hn' e2
      go_wp2_with fail
      rw [HN.out, e5]
      have ht := top63 n' (by omega)
      refine (addSec_any _ _ n' s (d.tdiv 1000000000) (by omega) (by go_simp) (by go_simp) (by go_simp) (by omega) (by omega) (by omega) (by omega)).mono ?_
      rintro e w2 ⟨rfl, rfl⟩
      go_wp2_with fail
      refine bodyPost_ret (v := .agg #[.int .u64 n', .int .i64 (s + (d.tdiv 1000000000)), .pointer none]) (by simp [results, Try.results32, go_sem]) rfl ⟨s + (d.tdiv 1000000000), n', rfl, by omega, ?_, ?_⟩
      · have := HD.out
        have := HN.out
        omega
      · repeat (first | exact Below.refl _ _ | refine Below.alloc ?_ (by simp; done) _ | refine Below.alloc ?_ (by simp; omega) _ | refine Below.setCell ?_ (by simp; done) _ | refine Below.drew ?_)

theorem and2 (n m : Nat) (h : n < 1073741824) (h' : m < 1073741824) : bits BinOp.and IntKind.u64 (bits BinOp.and IntKind.u64 (n : Int) (m : Int)) 9223372036854775808 = 0 := by
  rw [(bits_nat .u64 64 (by decide) wr64t n m (by omega) (by omega)).1]
  exact top63 _ (Nat.lt_of_le_of_lt Nat.and_le_left h)

theorem natInt_ne {a b : Nat} (h : a ≠ b) : (a : Int) ≠ b := by omega
theorem below2 (w : World) (o p : Obj) : Below w.heap.size w ((w.alloc o).alloc p) := ((Below.refl _ _).alloc (Nat.le_refl _) _).alloc (by simp) _

set_option maxHeartbeats 1000000 in
set_option maxRecDepth 20000 in
theorem tequal_any (w : World) (s s' : Int) (n n' : Nat) (h : n < 1000000000) (h' : n' < 1000000000) :
    Calls Try.prog 60 #[tm s n, tm s' n'] w fun e w' => e = .returned (.bool (decide (s * 1000000000 + n = s' * 1000000000 + n'))) ∧ Below w.heap.size w w' := by
  unfold tm
  have ha := and2 n n' (by omega) (by omega)
  have t1 := top63 n (by omega)
  have t2 := top63 n' (by omega)
  have m1 := mask30 n (by omega)
  have m2 := mask30 n' (by omega)
  by_cases c1 : s = s'
  · subst c1
    by_cases c2 : n = n'
    · subst c2
      go_enter Try.func60, Try.ntmps60
      go_wp2
      go_ret
      exact ⟨by simp, below2 _ _ _⟩
    · have c2' := natInt_ne c2
      go_enter Try.func60, Try.ntmps60
      go_wp2
      go_ret
      exact ⟨by show Ending.returned (.bool ((n : Int) == n')) = _; rw [decide_eq_false (by omega), beq_eq_false_iff_ne.2 c2'], below2 _ _ _⟩
  · go_enter Try.func60, Try.ntmps60
    go_wp2
    go_ret
    exact ⟨Eq.trans (congrArg (fun b => Ending.returned (Value.bool b)) (by first | rfl | exact beq_eq_false_iff_ne.2 (by assumption) | exact decide_eq_false (by omega))) (by rw [decide_eq_false (by omega)]), below2 _ _ _⟩

set_option maxHeartbeats 1000000 in
set_option maxRecDepth 20000 in
theorem tbefore_any (w : World) (s s' : Int) (n n' : Nat) (h : n < 1000000000) (h' : n' < 1000000000) :
    Calls Try.prog 61 #[tm s n, tm s' n'] w fun e w' => e = .returned (.bool (decide (s * 1000000000 + n < s' * 1000000000 + n'))) ∧ Below w.heap.size w w' := by
  unfold tm
  have ha := and2 n n' (by omega) (by omega)
  have t1 := top63 n (by omega)
  have t2 := top63 n' (by omega)
  have m1 := mask30 n (by omega)
  have m2 := mask30 n' (by omega)
  rcases Int.lt_trichotomy s s' with c1 | c1 | c1
  · go_enter Try.func61, Try.ntmps61
    go_wp2
    go_ret
    exact ⟨Eq.trans (congrArg (fun b => Ending.returned (Value.bool b)) (by first | rfl | exact beq_eq_false_iff_ne.2 (by assumption) | exact decide_eq_true (by omega))) (by rw [decide_eq_true (by omega)]), below2 _ _ _⟩
  · subst c1
    by_cases c2 : (n : Int) < n'
    · go_enter Try.func61, Try.ntmps61
      go_wp2
      go_ret
      exact ⟨Eq.trans (congrArg (fun b => Ending.returned (Value.bool b)) (by first | rfl | exact beq_eq_false_iff_ne.2 (by assumption) | exact decide_eq_true (by omega))) (by rw [decide_eq_true (by omega)]), below2 _ _ _⟩
    · go_enter Try.func61, Try.ntmps61
      go_wp2
      go_ret
      exact ⟨Eq.trans (congrArg (fun b => Ending.returned (Value.bool b)) (by first | rfl | exact beq_eq_false_iff_ne.2 (by assumption) | exact decide_eq_false (by omega))) (by rw [decide_eq_false (by omega)]), below2 _ _ _⟩
  · have c2 : ¬ s < s' := by omega
    have c3 : s ≠ s' := by omega
    go_enter Try.func61, Try.ntmps61
    go_wp2
    go_ret
    exact ⟨Eq.trans (congrArg (fun b => Ending.returned (Value.bool b)) (by first | rfl | exact beq_eq_false_iff_ne.2 (by assumption) | exact decide_eq_false (by omega))) (by rw [decide_eq_false (by omega)]), below2 _ _ _⟩
end Go.Proofs.Qxb6616714a
