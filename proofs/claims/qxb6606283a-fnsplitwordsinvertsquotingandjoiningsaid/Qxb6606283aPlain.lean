/-
  SEAT b6606283a: THE PLAIN FUNCTIONS: what 'appendQuoted' computes, over lists of bytes (as Int). No Go in sight.
-/
namespace Go.Proofs.Qxb6606283a

def hexB (c : Int) : Bool := decide ((48 ≤ c ∧ c ≤ 57) ∨ (97 ≤ c ∧ c ≤ 102) ∨ (65 ≤ c ∧ c ≤ 70))
def unhexI (c : Int) : Int := if c ≤ 57 then c - 48 else if c ≤ 70 then c - 55 else c - 87
def unescI (c : Int) : Int := if c = 110 then 10 else if c = 114 then 13 else if c = 116 then 9 else if c = 98 then 8 else if c = 97 then 7 else c

/-- One round of 'appendQuoted' at the rest of the line: 'none': the line is at its end; else what is emitted ('none': the closing quote) and how many bytes are used up. -/
def one (q : Int) : List Int → Option (Option Int × Nat)
  | [] => none
  | c :: rs => if c = q then some (none, 1) else
    match rs with
    | [] => some (some c, 1)
    | e :: rs' => if c ≠ 92 then some (some c, 1) else
      if q = 39 then (if e = 39 then some (some 39, 2) else some (some c, 1)) else
      match rs' with
      | h1 :: h2 :: _ => if e = 120 ∧ hexB h1 = true ∧ hexB h2 = true then some (some (16 * unhexI h1 + unhexI h2), 4) else some (some (unescI e), 2)
      | _ => some (some (unescI e), 2)

/-- All rounds: the bytes emitted, and how many bytes are used up, the closing quote with them; 'none': the quote is not closed. -/
def aq (q : Int) : Nat → List Int → Option (List Int × Nat)
  | 0, _ => none
  | f + 1, l => match one q l with
    | none => none
    | some (none, k) => some ([], k)
    | some (some b, k) => (aq q f (l.drop k)).map fun r => (b :: r.1, k + r.2)

theorem one_le {q : Int} {l : List Int} {b : Option Int} {k : Nat} (h : one q l = some (b, k)) : 1 ≤ k ∧ k ≤ l.length ∧ k ≤ 4 ∧ (b = none → k = 1 ∧ l.getD 0 0 = q) := by
  unfold one at h
  split at h
  · cases h
  · rename_i c rs
    split at h
    · rename_i hc
      cases h; simp [hc]
    · split at h
      · cases h; simp
      · rename_i e rs'
        split at h
        · cases h; simp
        · split at h
          · split at h
            · cases h; simp
            · cases h; simp
          · split at h
            · split at h
              · cases h; simp
              · cases h; simp
            · cases h; simp

/-- What is emitted is between a quarter of and all of what lies between the quotes; the last byte used up is the quote. -/
theorem aq_span {q : Int} : ∀ (f : Nat) (l : List Int) {bs : List Int} {k : Nat}, aq q f l = some (bs, k) → 1 ≤ k ∧ k ≤ l.length ∧ l.getD (k - 1) 0 = q ∧ bs.length ≤ k - 1 ∧ k - 1 ≤ 4 * bs.length := by
  intro f
  induction f with
  | zero => intro l bs k h; simp [aq] at h
  | succ f ih =>
    intro l bs k h
    unfold aq at h
    split at h
    · cases h
    · rename_i k' h1
      cases h
      obtain ⟨g1, g2, g3, g4⟩ := one_le h1
      obtain ⟨g5, g6⟩ := g4 rfl
      subst g5
      exact ⟨by omega, by omega, by simpa using g6, by simp, by simp⟩
    · rename_i b k' h1
      obtain ⟨g1, g2, g3, _⟩ := one_le h1
      rw [Option.map_eq_some_iff] at h
      obtain ⟨⟨bs', k''⟩, h2, h3⟩ := h
      cases h3
      obtain ⟨e1, e2, e3, e4, e5⟩ := ih (l.drop k') h2
      simp only [List.length_drop] at e2
      refine ⟨by omega, by omega, ?_, by simp; omega, by simp; omega⟩
      rw [← e3]
      simp only [List.getD, List.getElem?_drop]
      rw [show k' + k'' - 1 = k' + (k'' - 1) by omega]

/-- The forward form, for a loop: what the whole comes to, from round to round. -/
theorem aq_fwd {q : Int} {F f : Nat} {l : List Int} {j i0 : Nat} {L0 : List Int} {bs0 : List Int} {b : Int} {k : Nat}
    (h : aq q F L0 = (aq q (f + 1) (l.drop j)).map fun r => (bs0 ++ r.1, (j - i0) + r.2)) (h1 : one q (l.drop j) = some (some b, k)) (hj : i0 ≤ j) :
    aq q F L0 = (aq q f (l.drop (j + k))).map fun r => (bs0 ++ [b] ++ r.1, (j + k - i0) + r.2) := by
  rw [h, aq, h1]
  simp only [List.drop_drop]
  cases aq q f (l.drop (j + k)) with
  | none => rfl
  | some r => simp; omega

theorem aq_end {q : Int} {F f : Nat} {l : List Int} {j i0 : Nat} {L0 : List Int} {bs0 : List Int}
    (h : aq q F L0 = (aq q (f + 1) (l.drop j)).map fun r => (bs0 ++ r.1, (j - i0) + r.2)) (h1 : one q (l.drop j) = some (none, 1)) :
    aq q F L0 = some (bs0, j - i0 + 1) := by
  rw [h, aq, h1]; simp

theorem aq_fail {q : Int} {F f : Nat} {l : List Int} {j i0 : Nat} {L0 : List Int} {bs0 : List Int}
    (h : aq q F L0 = (aq q f (l.drop j)).map fun r => (bs0 ++ r.1, (j - i0) + r.2)) (hj : l.length ≤ j) :
    aq q F L0 = none := by
  rw [h, List.drop_eq_nil_of_le hj]
  cases f <;> simp [aq, one]

theorem drop_cons {l : List Int} {j : Nat} (h : j < l.length) : l.drop j = l.getD j 0 :: l.drop (j + 1) := by
  rw [List.drop_eq_getElem_cons h]; simp [List.getD, h]

/-- The rounds, by the bytes at the index. -/
theorem one_quote {q : Int} {l : List Int} {j : Nat} (h : j < l.length) (hq : l.getD j 0 = q) : one q (l.drop j) = some (none, 1) := by
  rw [drop_cons h]; unfold one; simp only [hq, if_true]

theorem one_lit {q : Int} {l : List Int} {j : Nat} (h : j < l.length) (hq : ¬ l.getD j 0 = q) (hc : ¬ l.getD j 0 = 92 ∨ j + 1 = l.length) : one q (l.drop j) = some (some (l.getD j 0), 1) := by
  rw [drop_cons h]
  by_cases e : j + 1 = l.length
  · rw [List.drop_eq_nil_of_le (Nat.le_of_eq e.symm)]
    unfold one; simp only [if_neg hq]
  · rw [drop_cons (by omega : j + 1 < l.length)]
    have hc' : ¬ l.getD j 0 = 92 := by rcases hc with h | h; exact h; exact absurd h e
    unfold one; simp only [if_neg hq, ne_eq, if_pos hc']

theorem one_single {l : List Int} {j : Nat} (h : j + 1 < l.length) (hc : l.getD j 0 = 92) : one 39 (l.drop j) = if l.getD (j + 1) 0 = 39 then some (some 39, 2) else some (some 92, 1) := by
  rw [drop_cons (by omega : j < l.length), drop_cons h, hc]
  unfold one; simp

theorem one_hex {q : Int} {l : List Int} {j : Nat} (h : j + 3 < l.length) (hc : l.getD j 0 = 92) (hq : ¬ q = 92) (hs : ¬ q = 39) (hx : l.getD (j + 1) 0 = 120) (h1 : hexB (l.getD (j + 2) 0) = true) (h2 : hexB (l.getD (j + 3) 0) = true) :
    one q (l.drop j) = some (some (16 * unhexI (l.getD (j + 2) 0) + unhexI (l.getD (j + 3) 0)), 4) := by
  rw [drop_cons (by omega : j < l.length), drop_cons (by omega : j + 1 < l.length), drop_cons (by omega : j + 1 + 1 < l.length), drop_cons (by omega : j + 1 + 1 + 1 < l.length), hc, hx]
  unfold one
  simp only [show ¬ ((92 : Int) = q) from fun e => hq e.symm, if_false, hs, ne_eq, not_true_eq_false]
  rw [if_pos ⟨trivial, h1, h2⟩]

theorem one_esc {q : Int} {l : List Int} {j : Nat} (h : j + 1 < l.length) (hc : l.getD j 0 = 92) (hq : ¬ q = 92) (hs : ¬ q = 39)
    (hx : ¬ (l.getD (j + 1) 0 = 120 ∧ j + 3 < l.length ∧ hexB (l.getD (j + 2) 0) = true ∧ hexB (l.getD (j + 3) 0) = true)) :
    one q (l.drop j) = some (some (unescI (l.getD (j + 1) 0)), 2) := by
  rw [drop_cons (by omega : j < l.length), drop_cons h, hc]
  unfold one
  simp only [show ¬ ((92 : Int) = q) from fun e => hq e.symm, if_false, hs, ne_eq, not_true_eq_false]
  by_cases h3 : j + 3 < l.length
  · rw [drop_cons (by omega : j + 1 + 1 < l.length), drop_cons (by omega : j + 1 + 1 + 1 < l.length)]
    simp only []
    rw [if_neg (fun e => hx ⟨e.1, h3, e.2.1, e.2.2⟩)]
  · by_cases h2 : j + 2 < l.length
    · rw [drop_cons (by omega : j + 1 + 1 < l.length), List.drop_eq_nil_of_le (by omega : l.length ≤ j + 1 + 1 + 1)]
    · rw [List.drop_eq_nil_of_le (by omega : l.length ≤ j + 1 + 1)]

end Go.Proofs.Qxb6606283a
