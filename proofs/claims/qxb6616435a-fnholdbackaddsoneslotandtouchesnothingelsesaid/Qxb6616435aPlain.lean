import Derived.Test.Qxb6616435aBack
namespace Go.Proofs.Qxb6616435a

/-! ### The plain law: a script of hold-backs -/
/-- One hold-back of slot 'p.2' on entry 'p.1'. -/
def hold (L : List (Nat × Nat)) (p : Nat × Nat) : List (Nat × Nat) := put p.1 (addBit ((look p.1 L).getD 0) p.2) L
/-- The whole script. -/
def holdAll (ps L : List (Nat × Nat)) : List (Nat × Nat) := ps.foldl hold L
/-- Was entry 'j' named? -/
def seenOf (ps : List (Nat × Nat)) (j : Nat) : Bool := ps.any (fun p => p.1 == j)
/-- The bits of entry 'j'. -/
def wantOf (ps : List (Nat × Nat)) (j : Nat) : Nat := ps.foldl (fun v p => if p.1 = j then addBit v p.2 else v) 0
/-- How many of the 256 entries answer yes. -/
def cnt (f : Nat → Bool) (k : Nat) : Nat := (List.range k).countP f

theorem seenOf_snoc (ps : List (Nat × Nat)) (p : Nat × Nat) (j : Nat) : seenOf (ps ++ [p]) j = if j = p.1 then true else seenOf ps j := by
  unfold seenOf
  rw [List.any_append]
  by_cases h : j = p.1
  · subst h; simp
  · have h' : ¬ p.1 = j := fun e => h e.symm
    simp [h, h']

theorem wantOf_snoc (ps : List (Nat × Nat)) (p : Nat × Nat) (j : Nat) : wantOf (ps ++ [p]) j = if j = p.1 then addBit (wantOf ps j) p.2 else wantOf ps j := by
  unfold wantOf
  rw [List.foldl_append]
  simp only [List.foldl_cons, List.foldl_nil]
  by_cases h : j = p.1
  · rw [if_pos h, if_pos h.symm]
  · rw [if_neg h, if_neg (fun e => h e.symm)]

theorem holdAll_snoc (ps : List (Nat × Nat)) (p : Nat × Nat) (L : List (Nat × Nat)) : holdAll (ps ++ [p]) L = hold (holdAll ps L) p := by
  simp [holdAll, List.foldl_append]

theorem addBit_bit (v s i : Nat) : (addBit v s).testBit i = (v.testBit i || (decide (s < 16) && decide (s = i))) := by
  unfold addBit; rw [Nat.testBit_or, testBit_bit]

theorem foldl_bit (j i : Nat) : ∀ (ps : List (Nat × Nat)) (v : Nat), (ps.foldl (fun v p => if p.1 = j then addBit v p.2 else v) v).testBit i = (v.testBit i || ps.any (fun p => p.1 == j && (decide (p.2 < 16) && decide (p.2 = i))))
  | [], v => by simp
  | p :: r, v => by
    rw [List.foldl_cons, foldl_bit j i r, List.any_cons]
    by_cases h : p.1 = j
    · rw [if_pos h, addBit_bit]; simp [h, Bool.or_assoc]
    · have hb : (p.1 == j) = false := by simpa using h
      rw [if_neg h, hb]; rfl

theorem wantOf_bit (ps : List (Nat × Nat)) (j i : Nat) : (wantOf ps j).testBit i = ps.any (fun p => p.1 == j && (decide (p.2 < 16) && decide (p.2 = i))) := by
  unfold wantOf; rw [foldl_bit]; simp

theorem wantOf_reverse (ps : List (Nat × Nat)) (j : Nat) : wantOf ps.reverse j = wantOf ps j := by
  apply Nat.eq_of_testBit_eq
  intro i
  rw [wantOf_bit, wantOf_bit, List.any_reverse]

theorem seenOf_reverse (ps : List (Nat × Nat)) (j : Nat) : seenOf ps.reverse j = seenOf ps j := by
  unfold seenOf; rw [List.any_reverse]

theorem wantOf_lt (ps : List (Nat × Nat)) (j : Nat) : wantOf ps j < 65536 := by
  have : ∀ (l : List (Nat × Nat)) (v : Nat), v < 65536 → (l.foldl (fun v p => if p.1 = j then addBit v p.2 else v) v) < 65536 := by
    intro l
    induction l with
    | nil => intro v h; exact h
    | cons p r ih =>
      intro v h
      rw [List.foldl_cons]
      apply ih
      split
      · exact addBit_lt _ h
      · exact h
  exact this ps 0 (by decide)

/-- Every entry that was named holds just its bits; no other is there. -/
theorem look_holdAll (ps : List (Nat × Nat)) (j : Nat) : look j (holdAll ps []) = if seenOf ps j then some (wantOf ps j) else none := by
  suffices ∀ (n : Nat) (ps : List (Nat × Nat)), ps.length = n → ∀ j, look j (holdAll ps []) = if seenOf ps j then some (wantOf ps j) else none from this _ ps rfl j
  intro n
  induction n with
  | zero => intro ps h j; have : ps = [] := List.eq_nil_of_length_eq_zero h; subst this; simp [holdAll, look, seenOf]
  | succ n ih =>
    intro ps h j
    obtain ⟨qs, p, rfl⟩ : ∃ qs p, ps = qs ++ [p] := ⟨ps.dropLast, ps.getLast (by intro e; simp [e] at h), (List.dropLast_concat_getLast _).symm⟩
    have hq : qs.length = n := by simpa using h
    rw [holdAll_snoc, hold, look_put, seenOf_snoc, wantOf_snoc]
    by_cases hj : j = p.1
    · subst hj
      simp only [if_true]
      rw [ih qs hq p.1]
      by_cases hs : seenOf qs p.1 = true
      · simp [hs]
      · have hs' : seenOf qs p.1 = false := by simpa using hs
        have hw : wantOf qs p.1 = 0 := by
          apply Nat.eq_of_testBit_eq
          intro i
          rw [wantOf_bit, Nat.zero_testBit]
          unfold seenOf at hs'
          rw [List.any_eq_false] at hs' ⊢
          intro x hx
          have := hs' x hx
          simp at this ⊢
          intro e; exact absurd e this
        simp [hs', hw]
    · simp only [if_neg hj]; exact ih qs hq j

theorem wantOf_unseen (ps : List (Nat × Nat)) (j : Nat) (h : seenOf ps j = false) : wantOf ps j = 0 := by
  apply Nat.eq_of_testBit_eq
  intro i
  rw [wantOf_bit, Nat.zero_testBit]
  unfold seenOf at h
  rw [List.any_eq_false] at h ⊢
  intro x hx
  have := h x hx
  simp at this ⊢
  intro e; exact absurd e this
theorem look_getD (ps : List (Nat × Nat)) (j : Nat) : (look j (holdAll ps [])).getD 0 = wantOf ps j := by
  rw [look_holdAll]
  cases h : seenOf ps j
  · rw [wantOf_unseen ps j h]; rfl
  · rfl
theorem look_isSome (ps : List (Nat × Nat)) (j : Nat) : (look j (holdAll ps [])).isSome = seenOf ps j := by
  rw [look_holdAll]; cases seenOf ps j <;> rfl

theorem cnt_succ (f : Nat → Bool) (k : Nat) : cnt f (k + 1) = cnt f k + if f k then 1 else 0 := by
  unfold cnt; rw [List.range_succ, List.countP_append]; simp [List.countP_cons]

theorem cnt_le (f : Nat → Bool) (k : Nat) : cnt f k ≤ k := by
  unfold cnt; exact Nat.le_trans List.countP_le_length (by simp)

theorem cnt_congr {f g : Nat → Bool} {k : Nat} (h : ∀ j, j < k → f j = g j) : cnt f k = cnt g k := by
  induction k with
  | zero => rfl
  | succ k ih => rw [cnt_succ, cnt_succ, ih (fun j hj => h j (by omega)), h k (by omega)]

theorem cnt_set (f : Nat → Bool) (i : Nat) : ∀ k, cnt (fun j => if j = i then true else f j) k = cnt f k + if i < k ∧ f i = false then 1 else 0
  | 0 => by simp [cnt]
  | k + 1 => by
    rw [cnt_succ, cnt_succ, cnt_set f i k]
    by_cases h : k = i
    · subst h
      cases hf : f k <;> simp
    · have h2 : (i < k + 1 ∧ f i = false) ↔ (i < k ∧ f i = false) := by constructor <;> intro h' <;> exact ⟨by omega, h'.2⟩
      simp only [if_neg h, h2]; omega

theorem length_hold (L : List (Nat × Nat)) (p : Nat × Nat) (hp : p.1 < 256) (h : L.length = cnt (fun j => (look j L).isSome) 256) : (hold L p).length = cnt (fun j => (look j (hold L p)).isSome) 256 := by
  have e : ∀ j, j < 256 → (look j (hold L p)).isSome = (if j = p.1 then true else (look j L).isSome) := by
    intro j _
    rw [hold, look_put]
    by_cases hj : j = p.1 <;> simp [hj]
  rw [cnt_congr e, cnt_set (fun j => (look j L).isSome) p.1 256, hold, length_put, h]
  cases hq : look p.1 L <;> simp [hp]

theorem length_holdAll (ps : List (Nat × Nat)) (hps : ∀ p ∈ ps, p.1 < 256) : (holdAll ps []).length = cnt (fun j => (look j (holdAll ps [])).isSome) 256 := by
  have : ∀ (l L : List (Nat × Nat)), (∀ p ∈ l, p.1 < 256) → L.length = cnt (fun j => (look j L).isSome) 256 → (holdAll l L).length = cnt (fun j => (look j (holdAll l L)).isSome) 256 := by
    intro l
    induction l with
    | nil => intro L _ h; exact h
    | cons p r ih =>
      intro L hl h
      show (holdAll r (hold L p)).length = _
      exact ih (hold L p) (fun q hq => hl q (by simp [hq])) (length_hold L p (hl p (by simp)) h)
  refine this ps [] hps ?_
  have : cnt (fun j => (look j []).isSome) 256 = cnt (fun _ => false) 256 := cnt_congr (fun j _ => rfl)
  rw [this]; simp [cnt]

theorem length_seen (ps : List (Nat × Nat)) (hps : ∀ p ∈ ps, p.1 < 256) : (holdAll ps []).length = cnt (seenOf ps) 256 := by
  rw [length_holdAll ps hps]
  apply cnt_congr
  intro j _
  rw [look_holdAll]; cases seenOf ps j <;> rfl
end Go.Proofs.Qxb6616435a
