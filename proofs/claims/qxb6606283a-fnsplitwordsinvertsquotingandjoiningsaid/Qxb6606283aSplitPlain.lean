/-
  SEAT b6606283a: THE PLAIN SPLITTER, AND THAT IT INVERTS QUOTING AND JOINING. No Go in sight.
-/
import Derived.Test.Qxb6606283aEncPlain
namespace Go.Proofs.Qxb6606283a

def wsB (c : Int) : Bool := decide (c = 32 ∨ c = 9 ∨ c = 10 ∨ c = 11 ∨ c = 12 ∨ c = 13)
def qtB (c : Int) : Bool := decide (c = 34 ∨ c = 39)

/-- How much white space stands ahead. -/
def skipN : List Int → Nat
  | [] => 0
  | c :: r => if wsB c = true then skipN r + 1 else 0

/-- One word off the rest of the line: its bytes, and how many bytes are used up. -/
def sww (N : Nat) : Nat → List Int → Option (List Int × Nat)
  | 0, _ => none
  | _ + 1, [] => some ([], 0)
  | f + 1, c :: rs => if wsB c = true then some ([], 0) else
    if qtB c = false then (sww N f rs).map fun r => (c :: r.1, r.2 + 1) else
    match aq c N rs with
    | none => none
    | some (bs, k) => match rs.drop k with
      | [] => some (bs, k + 1)
      | d :: _ => if wsB d = true then some (bs, k + 1) else none

/-- All words. -/
def swf (N : Nat) : Nat → List Int → Option (List (List Int))
  | 0, _ => none
  | f + 1, l => match l.drop (skipN l) with
    | [] => some []
    | c :: r => match sww N N (c :: r) with
      | none => none
      | some (wd, k) => (swf N f ((c :: r).drop k)).map (wd :: ·)

/-! ### Skipping -/
def AllWs (s : List Int) : Prop := ∀ x ∈ s, wsB x = true

theorem skipN_app {s rest : List Int} (hs : AllWs s) (hr : rest = [] ∨ ∃ c r, rest = c :: r ∧ wsB c = false) : skipN (s ++ rest) = s.length := by
  induction s with
  | nil =>
    rcases hr with rfl | ⟨c, r, rfl, hc⟩
    · rfl
    · simp [skipN, hc]
  | cons x s ih =>
    have hx : wsB x = true := hs x (by simp)
    simp only [List.cons_append, skipN, hx, if_true, List.length_cons]
    rw [ih (fun y hy => hs y (by simp [hy]))]

theorem skipN_le (l : List Int) : skipN l ≤ l.length := by
  induction l with
  | nil => simp [skipN]
  | cons c r ih => unfold skipN; split <;> simp <;> omega

/-- A loop that skips: at each place the byte is white space, or the skipping is over. -/
theorem skipN_at (l : List Int) : ∀ j, j < skipN l → wsB (l.getD j 0) = true := by
  induction l with
  | nil => intro j hj; simp [skipN] at hj
  | cons c r ih =>
    intro j hj
    unfold skipN at hj
    split at hj
    · rename_i hc
      cases j with
      | zero => simpa using hc
      | succ j => have := ih j (by omega); simpa using this
    · omega

theorem skipN_end (l : List Int) (h : skipN l < l.length) : wsB (l.getD (skipN l) 0) = false := by
  induction l with
  | nil => simp at h
  | cons c r ih =>
    unfold skipN at h ⊢
    split
    · rename_i hc
      rw [if_pos hc] at h
      have := ih (by simpa using h)
      simpa using this
    · rename_i hc
      simpa using hc

/-! ### A spelled word -/
/-- What may stand behind a word: nothing, or white space. -/
def Behind (rest : List Int) : Prop := rest = [] ∨ ∃ c r, rest = c :: r ∧ wsB c = true

/-- W spells the word wd. -/
def Spells (W wd : List Int) : Prop :=
  (∃ c r, W = c :: r ∧ wsB c = false) ∧ ∀ (N f : Nat) (rest : List Int), Behind rest → W.length < f → (W ++ rest).length < N → sww N f (W ++ rest) = some (wd, W.length)

theorem sww_stop {N f : Nat} {rest : List Int} (h : Behind rest) : sww N (f + 1) rest = some ([], 0) := by
  rcases h with rfl | ⟨c, r, rfl, hc⟩
  · rfl
  · simp [sww, hc]

/-- A bare head. -/
def Bare (h : List Int) : Prop := ∀ x ∈ h, wsB x = false ∧ qtB x = false

theorem sww_bare {N : Nat} : ∀ (h : List Int) (f : Nat) (X : List Int), Bare h → h.length < f → sww N f (h ++ X) = (sww N (f - h.length) X).map fun r => (h ++ r.1, r.2 + h.length) := by
  intro h
  induction h with
  | nil =>
    intro f X _ hf
    simp only [List.nil_append, List.length_nil, Nat.sub_zero, Nat.add_zero]
    cases sww N f X <;> rfl
  | cons c h ih =>
    intro f X hb hf
    cases f with
    | zero => simp at hf
    | succ f =>
      have hc := hb c (by simp)
      simp only [List.cons_append, sww, hc.1, hc.2, Bool.false_eq_true, if_false, if_true]
      rw [ih f X (fun x hx => hb x (by simp [hx])) (by simp at hf; omega)]
      simp only [List.length_cons, Nat.succ_sub_succ_eq_sub, Option.map_map]
      congr 1

theorem spells_bare {h : List Int} (hb : Bare h) (hne : h ≠ []) : Spells h h := by
  refine ⟨?_, ?_⟩
  · cases h with
    | nil => exact absurd rfl hne
    | cons c r => exact ⟨c, r, rfl, (hb c (by simp)).1⟩
  · intro N f rest hr hf _
    rw [sww_bare h f rest hb hf]
    obtain ⟨g, hg⟩ : ∃ g, f - h.length = g + 1 := ⟨f - h.length - 1, by omega⟩
    rw [hg, sww_stop hr]
    simp

/-- A quoted rest behind a bare head. 'body' holds the closing quote. -/
theorem spells_quoted {h body bs : List Int} {q : Int} (hb : Bare h) (hq : q = 34 ∨ q = 39) (hd : ∀ (rest : List Int) (N : Nat), (body ++ rest).length < N → aq q N (body ++ rest) = some (bs, body.length)) :
    Spells (h ++ (q :: body)) (h ++ bs) := by
  have hqt : qtB q = true := decide_eq_true hq
  have hqw : wsB q = false := decide_eq_false (by omega)
  refine ⟨?_, ?_⟩
  · cases h with
    | nil => exact ⟨q, body, rfl, hqw⟩
    | cons c r => exact ⟨c, r ++ (q :: body), rfl, (hb c (by simp)).1⟩
  · intro N f rest hr hf hN
    rw [List.append_assoc, sww_bare h f _ hb (by simp at hf; omega)]
    obtain ⟨g, hg⟩ : ∃ g, f - h.length = g + 1 := ⟨f - h.length - 1, by simp at hf; omega⟩
    rw [hg, List.cons_append]
    simp only [sww, hqw, hqt, Bool.false_eq_true, if_false, Bool.true_eq_false]
    rw [hd rest N (by simp at hN ⊢; omega)]
    simp only [List.drop_left]
    rcases hr with rfl | ⟨c, r, rfl, hc⟩
    · simp; omega
    · simp [hc]; omega

/-! ### The spellings -/
theorem spells_dq {h p style : List Int} (hb : Bare h) (hp : ∀ x ∈ p, 0 ≤ x ∧ x ≤ 255) : Spells (h ++ dq p style) (h ++ p) := by
  unfold dq
  refine spells_quoted hb (Or.inl rfl) ?_
  intro rest N hN
  rw [List.append_assoc]
  have hge := dqTo_ge p style p.length
  rw [List.singleton_append, aq_enc p style rest N hp (by simp at hN; omega)]
  simp

def sqTo (p : List Int) : List Int := p.flatMap fun c => if c = 39 then [92, 39] else [c]
def sq (p : List Int) : List Int := 39 :: (sqTo p ++ [39])

theorem sqTo_len (p : List Int) : p.length ≤ (sqTo p).length ∧ (sqTo p).length ≤ 2 * p.length := by
  induction p with
  | nil => simp [sqTo]
  | cons c p ih =>
    have e : sqTo (c :: p) = (if c = 39 then [92, 39] else [c]) ++ sqTo p := by unfold sqTo; rw [List.flatMap_cons]
    rw [e, List.length_append]
    split
    · simp only [List.length_cons, List.length_nil]; omega
    · simp only [List.length_cons, List.length_nil]; omega

theorem aq_sq (rest : List Int) : ∀ (p : List Int) (f : Nat), (p = [] ∨ p.getD (p.length - 1) 0 ≠ 92) → p.length < f → aq 39 f (sqTo p ++ 39 :: rest) = some (p, (sqTo p).length + 1) := by
  intro p
  induction p with
  | nil =>
    intro f _ hf
    cases f with
    | zero => simp at hf
    | succ f => simp [sqTo, aq, one]
  | cons c p ih =>
    intro f hlast hf
    cases f with
    | zero => simp at hf
    | succ f =>
      have hlast' : p = [] ∨ p.getD (p.length - 1) 0 ≠ 92 := by
        cases p with
        | nil => exact Or.inl rfl
        | cons d p =>
          refine Or.inr ?_
          rcases hlast with h | h
          · cases h
          · simpa [List.getD] using h
      have h2 := ih f hlast' (by simp at hf; omega)
      have e : sqTo (c :: p) = (if c = 39 then [92, 39] else [c]) ++ sqTo p := by unfold sqTo; rw [List.flatMap_cons]
      rw [e, List.append_assoc, aq]
      by_cases hc : c = 39
      · rw [if_pos hc]
        have h1 : one 39 ([92, 39] ++ (sqTo p ++ 39 :: rest)) = some (some 39, 2) := by simp [one]
        rw [h1]
        simp only []
        rw [show List.drop 2 ([92, 39] ++ (sqTo p ++ 39 :: rest)) = sqTo p ++ 39 :: rest by simp, h2]
        simp [hc]; omega
      · rw [if_neg hc]
        have h1 : one 39 ([c] ++ (sqTo p ++ 39 :: rest)) = some (some c, 1) := by
          by_cases h9 : c = 92
          · cases p with
            | nil =>
              rcases hlast with h | h
              · cases h
              · simp [h9] at h
            | cons d p =>
              subst h9
              unfold sqTo
              rw [List.flatMap_cons]
              by_cases hd : d = 39
              · simp [hd, one]
              · simp [hd, one]
          · unfold one
            cases hX : sqTo p ++ 39 :: rest with
            | nil => simp at hX
            | cons x r => simp [hc, h9]
        rw [h1]
        simp only []
        rw [show List.drop 1 ([c] ++ (sqTo p ++ 39 :: rest)) = sqTo p ++ 39 :: rest by simp, h2]
        simp; omega

theorem spells_sq {p : List Int} (hlast : p = [] ∨ p.getD (p.length - 1) 0 ≠ 92) : Spells (sq p) p := by
  have h := spells_quoted (h := []) (body := sqTo p ++ [39]) (bs := p) (q := 39) (fun x hx => by cases hx) (Or.inr rfl) ?_
  · simpa [sq] using h
  · intro rest N hN
    rw [List.append_assoc, List.singleton_append]
    have hge := (sqTo_len p).1
    rw [aq_sq rest p N hlast (by simp at hN; omega)]
    simp

/-! ### The line -/
/-- The items: white space ahead, the spelling, the word. -/
def flat (items : List (List Int × List Int × List Int)) (trail : List Int) : List Int := items.flatMap (fun x => x.1 ++ x.2.1) ++ trail

theorem swf_flat {N : Nat} {trail : List Int} (ht : AllWs trail) : ∀ (items : List (List Int × List Int × List Int)) (f : Nat), items.length < f → (∀ x ∈ items, AllWs x.1 ∧ Spells x.2.1 x.2.2) →
    (∀ x ∈ items.tail, x.1 ≠ []) → (flat items trail).length < N → swf N f (flat items trail) = some (items.map (·.2.2)) := by
  intro items
  induction items with
  | nil =>
    intro f hf _ _ _
    cases f with
    | zero => simp at hf
    | succ f =>
      have e : skipN trail = trail.length := by
        have := skipN_app (rest := []) ht (Or.inl rfl)
        simpa using this
      simp [flat, swf, e]
  | cons x items ih =>
    intro f hf hall htail hN
    cases f with
    | zero => simp at hf
    | succ f =>
      obtain ⟨hws, ⟨c, r, hW, hc⟩, hsp⟩ := hall x (by simp)
      have hrest : Behind (flat items trail) := by
        cases items with
        | nil =>
          unfold flat
          cases trail with
          | nil => exact Or.inl rfl
          | cons d t => exact Or.inr ⟨d, t, rfl, ht d (by simp)⟩
        | cons y items =>
          have hy := htail y (by simp)
          have hyw := (hall y (by simp)).1
          unfold flat
          rw [List.flatMap_cons]
          cases hy1 : y.1 with
          | nil => exact absurd hy1 hy
          | cons d t => exact Or.inr ⟨d, _, rfl, hyw d (by rw [hy1]; simp)⟩
      have hfl : flat (x :: items) trail = x.1 ++ (x.2.1 ++ flat items trail) := by
        unfold flat
        rw [List.flatMap_cons]
        simp
      rw [hfl] at hN ⊢
      have hsk : skipN (x.1 ++ (x.2.1 ++ flat items trail)) = x.1.length := skipN_app hws (Or.inr ⟨c, r ++ flat items trail, by rw [hW]; rfl, hc⟩)
      have hlen : (x.2.1 ++ flat items trail).length < N := by simp at hN ⊢; omega
      have h1 := hsp N N (flat items trail) hrest (by simp at hlen; omega) hlen
      have h2 := ih f (by simp at hf; omega) (fun y hy => hall y (by simp [hy])) (fun y hy => htail y (by simp; exact List.mem_of_mem_tail hy)) (by simp at hlen; omega)
      unfold swf
      rw [hsk, List.drop_left, hW, List.cons_append]
      rw [hW, List.cons_append] at h1
      simp only [h1]
      rw [← List.cons_append, ← hW, List.drop_left, h2]
      rfl

end Go.Proofs.Qxb6606283a
