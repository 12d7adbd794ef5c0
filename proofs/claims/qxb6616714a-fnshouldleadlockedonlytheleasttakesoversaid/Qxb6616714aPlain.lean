import Derived.Test.Qxb6616714aLead
namespace Go.Proofs.Qxb6616714a

def leastStep (leader : Nat) (st : Bool × Nat) (x : Nat) : Bool × Nat := if x ≠ leader ∧ (st.1 = false ∨ x < st.2) then (true, x) else st
def leastOf (leader : Nat) (ms : List Nat) : Bool × Nat := ms.foldl (leastStep leader) (false, 0)
def counts (f : Nat → List Nat) (least leader p : Nat) : Bool := decide (p ≠ least) && decide (p ≠ leader) && (f p).contains leader
def cond3 (leader : Nat) (ms : List Nat) (size timeout dur : Int) (f : Nat → List Nat) : Bool :=
  (leastOf leader ms).1 && Maj ms.length size && (if leader = 0 then decide (timeout ≤ dur) else Maj (ms.countP (counts f (leastOf leader ms).2 leader)) size)

/-- what the loop knows of the members that it has met -/
structure LeastOk (leader : Nat) (ms : List Nat) (st : Bool × Nat) : Prop where
  none : st.1 = false → ∀ x ∈ ms, x = leader
  mem : st.1 = true → st.2 ∈ ms
  ne : st.1 = true → st.2 ≠ leader
  le : st.1 = true → ∀ x ∈ ms, x ≠ leader → st.2 ≤ x

theorem LeastOk.step {leader : Nat} {ms : List Nat} {st : Bool × Nat} (h : LeastOk leader ms st) (x : Nat) : LeastOk leader (ms ++ [x]) (leastStep leader st x) := by
  obtain ⟨b, m⟩ := st
  unfold leastStep
  simp only
  by_cases hx : x = leader
  · rw [if_neg (fun h => h.1 hx)]
    refine ⟨fun e y hy => ?_, fun e => ?_, h.ne, fun e y hy hne => ?_⟩
    · rcases List.mem_append.1 hy with hy | hy
      · exact h.none e y hy
      · simp at hy; omega
    · exact List.mem_append_left _ (h.mem e)
    · rcases List.mem_append.1 hy with hy | hy
      · exact h.le e y hy hne
      · simp at hy; omega
  · by_cases hb : b = false ∨ x < m
    · rw [if_pos ⟨hx, hb⟩]
      refine ⟨fun e => (by cases e), fun _ => by simp, fun _ => hx, fun _ y hy hne => ?_⟩
      rcases List.mem_append.1 hy with hy | hy
      · rcases hb with hb | hb
        · exact absurd (h.none hb y hy) hne
        · cases b with
          | false => exact absurd (h.none rfl y hy) hne
          | true => have := h.le rfl y hy hne; simp only at this ⊢; omega
      · simp at hy; simp only; omega
    · rw [if_neg (fun h => hb h.2)]
      cases b with
      | false => exact absurd (Or.inl rfl) hb
      | true =>
        refine ⟨fun e => (by cases e), fun e => List.mem_append_left _ (h.mem e), h.ne, fun e y hy hne => ?_⟩
        rcases List.mem_append.1 hy with hy | hy
        · exact h.le e y hy hne
        · simp at hy; subst hy; simp only at hb ⊢; omega

theorem leastOf_snoc (leader : Nat) (ms : List Nat) (x : Nat) : leastOf leader (ms ++ [x]) = leastStep leader (leastOf leader ms) x := by simp [leastOf]
theorem leastOf_ok (leader : Nat) (ms : List Nat) : LeastOk leader ms (leastOf leader ms) := by
  have key : ∀ (r p : List Nat) (st : Bool × Nat), LeastOk leader p st → LeastOk leader (p ++ r) (r.foldl (leastStep leader) st) := by
    intro r
    induction r with
    | nil => intro p st h; simpa using h
    | cons x r ih =>
      intro p st h
      have := ih (p ++ [x]) _ (h.step x)
      simpa using this
  have := key ms [] (false, 0) ⟨fun _ x hx => (by cases hx), fun e => (by cases e), fun e => (by cases e), fun e => (by cases e)⟩
  simpa [leastOf] using this

theorem countP_erase (q r : Nat → Bool) : ∀ (ms : List Nat) (i : Nat) (hi : i < ms.length), r ms[i] = false → (∀ j (hj : j < ms.length), j ≠ i → r ms[j] = q ms[j]) → (ms.eraseIdx i).countP q = ms.countP r
  | [], i, hi, _, _ => by simp at hi
  | x :: xs, 0, hi, h0, h => by
    have h0' : r x = false := h0
    have : xs.countP q = xs.countP r := List.countP_congr fun y hy => by
      obtain ⟨j, hj, rfl⟩ := List.getElem_of_mem hy
      have := h (j + 1) (by simpa using hj) (by omega)
      simp only [List.getElem_cons_succ] at this
      rw [this]
    simp [h0', this]
  | x :: xs, i + 1, hi, h0, h => by
    have ih := countP_erase q r xs i (by simpa using hi) (by simpa using h0) (fun j hj hne => by
      have := h (j + 1) (by simpa using hj) (by omega)
      simpa using this)
    have hx : r x = q x := by have := h 0 (by simp) (by omega); simpa using this
    simp [List.countP_cons, ih, hx]

theorem mem_erase_idx {ms : List Nat} {i : Nat} (hi : i < ms.length) {x : Nat} (hx : x ∈ ms) (hne : x ≠ ms[i]) : x ∈ ms.eraseIdx i := by
  induction ms generalizing i with
  | nil => cases hx
  | cons y ys ih =>
    cases i with
    | zero =>
      simp at hx hne ⊢
      rcases hx with hx | hx
      · exact absurd hx hne
      · exact hx
    | succ i =>
      simp only [List.eraseIdx_cons_succ, List.mem_cons] at hx ⊢
      rcases hx with hx | hx
      · exact Or.inl hx
      · exact Or.inr (ih (by simpa using hi) hx (by simpa using hne))

theorem maj_cast (a b : Int) (size : Int) (h : a = b) : Maj a size = Maj b size := by rw [h]

/-- THE PLAIN LAW: only the least member (but the leader) takes over, and just if the condition holds -/
theorem plain3 (leader : Nat) (ms : List Nat) (size timeout dur : Int) (f : Nat → List Nat) (i : Nat) (hi : i < ms.length) (hnd : ∀ a (ha : a < ms.length) b (hb : b < ms.length), a ≠ b → ms[a] ≠ ms[b]) :
    leadAns ms[i] leader (ms.eraseIdx i) size timeout dur f = (cond3 leader ms size timeout dur f && decide (ms[i] = (leastOf leader ms).2)) := by
  have ok := leastOf_ok leader ms
  have hmaj : Maj ((ms.eraseIdx i).length + 1 : Nat) size = Maj ms.length size := by
    rw [List.length_eraseIdx_of_lt hi]
    congr 1
    omega
  have hmaj' : Maj (((ms.eraseIdx i).length : Int) + 1) size = Maj ms.length size := by rw [← hmaj]; rfl
  by_cases h1 : leader = ms[i]
  · have hl : leadAns ms[i] leader (ms.eraseIdx i) size timeout dur f = false := by unfold leadAns; rw [decide_eq_true h1]; rfl
    rw [hl]
    cases hb : (leastOf leader ms).1 with
    | false => unfold cond3; rw [hb]; rfl
    | true =>
      have := ok.ne hb
      rw [decide_eq_false (by omega), Bool.and_false]
  · have hb : (leastOf leader ms).1 = true := by
      cases hb : (leastOf leader ms).1 with
      | true => rfl
      | false => exact absurd (ok.none hb _ (List.getElem_mem hi)).symm h1
    by_cases h2 : ms[i] = (leastOf leader ms).2
    · rw [decide_eq_true h2, Bool.and_true]
      have hany : (ms.eraseIdx i).any (ahead ms[i] leader) = false := by
        rw [List.any_eq_false]
        intro x hx
        have hx' := List.mem_of_mem_eraseIdx hx
        unfold ahead
        by_cases hxl : x = leader
        · simp [hxl]
        · have := ok.le hb x hx' hxl
          simp
          omega
      unfold leadAns cond3
      rw [decide_eq_false h1, hmaj', hany, hb]
      have hcnt : (ms.eraseIdx i).countP (backs f leader) = ms.countP (counts f (leastOf leader ms).2 leader) := by
        refine countP_erase _ _ ms i hi ?_ fun j hj hne => ?_
        · unfold counts; simp [h2]
        · have := hnd j hj i hi hne
          unfold counts backs
          rw [← h2, decide_eq_true this, Bool.true_and]
      rw [hcnt]
      simp
    · rw [decide_eq_false h2, Bool.and_false]
      have hm := mem_erase_idx hi (ok.mem hb) (fun e => h2 e.symm)
      have hle := ok.le hb _ (List.getElem_mem hi) (fun e => h1 e.symm)
      have hany : (ms.eraseIdx i).any (ahead ms[i] leader) = true := List.any_eq_true.2 ⟨_, hm, by
        unfold ahead
        rw [decide_eq_true (by omega), decide_eq_true (ok.ne hb)]
        rfl⟩
      unfold leadAns
      rw [hany]
      simp

/-- the peers that the law has gathered behind j rounds -/
theorem peers_step {ms : List Nat} {i j : Nat} (hj : j < ms.length) : (ms.take (j + 1)).eraseIdx i = if j = i then (ms.take j).eraseIdx i else (ms.take j).eraseIdx i ++ [ms[j]] := by
  have hl : (ms.take j).length = j := by simp; omega
  rw [List.take_succ_eq_append_getElem hj]
  split
  case isTrue h =>
    subst h
    rw [List.eraseIdx_append_of_length_le (by omega), hl, List.eraseIdx_of_length_le (l := ms.take j) (by omega)]
    simp
  case isFalse h =>
    by_cases hlt : i < j
    · rw [List.eraseIdx_append_of_lt_length (by omega)]
    · rw [List.eraseIdx_of_length_le (by simp; omega), List.eraseIdx_of_length_le (by omega)]
end Go.Proofs.Qxb6616714a
