/-
  SEAT b6606283a: THE PLAIN ENCODERS, AND THAT 'aq' DECODES THEM. No Go in sight.
-/
import Derived.Test.Qxb6606283aPlain
namespace Go.Proofs.Qxb6606283a

def hexDig (x : Int) (u : Bool) : Int := if x < 10 then 48 + x else if u = true then 55 + x else 87 + x
def hexEsc (b : Int) (u1 u2 : Bool) : List Int := [92, 120, hexDig (b / 16) u1, hexDig (b % 16) u2]
def letterEsc (b : Int) : List Int :=
  if b = 10 then [92, 110] else if b = 13 then [92, 114] else if b = 9 then [92, 116] else if b = 8 then [92, 98] else if b = 7 then [92, 97] else
  if b = 120 then hexEsc b false false else
  if b = 110 ∨ b = 114 ∨ b = 116 ∨ b = 98 ∨ b = 97 then hexEsc b true true else [92, b]
def encB (s b : Int) : List Int :=
  if s = 0 then (if b = 34 ∨ b = 92 then [92, b] else [b]) else if s = 1 then hexEsc b false false else if s = 2 then hexEsc b true true else
  if s = 3 then letterEsc b else if s = 4 then hexEsc b true false else hexEsc b false true
def modeI (m : List Int) (k : Nat) : Int := m.getD (k % m.length) 0
/-- The first k bytes of p, each in the spelling that the style picks for it. -/
def dqTo (p style : List Int) (k : Nat) : List Int := (List.range k).flatMap fun t => encB (modeI style t % 6) (p.getD t 0)
def dq (p style : List Int) : List Int := 34 :: (dqTo p style p.length ++ [34])

theorem dqTo_succ (p style : List Int) (k : Nat) : dqTo p style (k + 1) = dqTo p style k ++ encB (modeI style k % 6) (p.getD k 0) := by
  unfold dqTo
  rw [List.range_succ, List.flatMap_append]
  simp

theorem encB_len (s b : Int) : (encB s b).length ≤ 4 := by
  have h1 : ∀ b u v, (hexEsc b u v).length ≤ 4 := fun b u v => by simp [hexEsc]
  have h2 : (letterEsc b).length ≤ 4 := by
    unfold letterEsc
    repeat' split
    all_goals first | exact h1 _ _ _ | simp
  unfold encB
  repeat' split
  all_goals first | exact h1 _ _ _ | exact h2 | simp

theorem encB_pos (s b : Int) : 1 ≤ (encB s b).length := by
  have h1 : ∀ b u v, 1 ≤ (hexEsc b u v).length := fun b u v => by simp [hexEsc]
  have h2 : 1 ≤ (letterEsc b).length := by
    unfold letterEsc
    repeat' split
    all_goals first | exact h1 _ _ _ | simp
  unfold encB
  repeat' split
  all_goals first | exact h1 _ _ _ | exact h2 | simp

theorem dqTo_ge (p style : List Int) (k : Nat) : k ≤ (dqTo p style k).length := by
  induction k with
  | zero => simp
  | succ k ih =>
    rw [dqTo_succ, List.length_append]
    have := encB_pos (modeI style k % 6) (p.getD k 0)
    omega

theorem dqTo_len (p style : List Int) (k : Nat) : (dqTo p style k).length ≤ 4 * k := by
  induction k with
  | zero => simp [dqTo]
  | succ k ih =>
    rw [dqTo_succ, List.length_append]
    have := encB_len (modeI style k % 6) (p.getD k 0)
    omega

theorem hexDig_ok {x : Int} (u : Bool) (h : 0 ≤ x ∧ x < 16) : hexB (hexDig x u) = true ∧ unhexI (hexDig x u) = x := by
  unfold hexDig
  by_cases h1 : x < 10
  · rw [if_pos h1]
    refine ⟨decide_eq_true (by omega), ?_⟩
    unfold unhexI
    rw [if_pos (by omega)]
    omega
  · rw [if_neg h1]
    by_cases h2 : u = true
    · rw [if_pos h2]
      refine ⟨decide_eq_true (by omega), ?_⟩
      unfold unhexI
      rw [if_neg (by omega), if_pos (by omega)]
      omega
    · rw [if_neg h2]
      refine ⟨decide_eq_true (by omega), ?_⟩
      unfold unhexI
      rw [if_neg (by omega), if_neg (by omega)]
      omega

theorem one_dq_esc (e : Int) (rest : List Int) (he : ¬ e = 120) : one 34 (92 :: e :: rest) = some (some (unescI e), 2) := by
  unfold one
  match rest with
  | [] => simp
  | [x] => simp
  | h1 :: h2 :: r => simp [he]

theorem one_dq_hex (b : Int) (u1 u2 : Bool) (rest : List Int) (hb : 0 ≤ b ∧ b ≤ 255) : one 34 (hexEsc b u1 u2 ++ rest) = some (some b, 4) := by
  have h1 := hexDig_ok u1 (x := b / 16) (by omega)
  have h2 := hexDig_ok u2 (x := b % 16) (by omega)
  unfold hexEsc
  simp only [List.cons_append, List.nil_append]
  unfold one
  simp only [show ¬ ((92 : Int) = 34) from by omega, if_false, ne_eq, not_true_eq_false, show ¬ ((34 : Int) = 39) from by omega]
  rw [if_pos ⟨trivial, h1.1, h2.1⟩, h1.2, h2.2]
  rw [show 16 * (b / 16) + b % 16 = b by omega]

theorem one_dq_lit (b : Int) (rest : List Int) (h1 : ¬ b = 34) (h2 : ¬ b = 92) : one 34 (b :: rest) = some (some b, 1) := by
  unfold one
  cases rest with
  | nil => simp [h1]
  | cons e r => simp [h1, h2]

theorem unescI_id {b : Int} (h : ¬ (b = 110 ∨ b = 114 ∨ b = 116 ∨ b = 98 ∨ b = 97)) : unescI b = b := by
  unfold unescI
  rw [if_neg (by omega), if_neg (by omega), if_neg (by omega), if_neg (by omega), if_neg (by omega)]

theorem one_dq (s b : Int) (rest : List Int) (hb : 0 ≤ b ∧ b ≤ 255) : one 34 (encB s b ++ rest) = some (some b, (encB s b).length) := by
  unfold encB
  split
  · split
    · rename_i h
      simp only [List.cons_append, List.nil_append]
      rw [one_dq_esc b rest (by omega), unescI_id (by omega)]
      rfl
    · rename_i h
      simp only [List.cons_append, List.nil_append]
      rw [one_dq_lit b rest (by omega) (by omega)]
      rfl
  · split
    · rw [one_dq_hex b _ _ rest hb]; rfl
    · split
      · rw [one_dq_hex b _ _ rest hb]; rfl
      · split
        · unfold letterEsc
          split
          · rename_i h; subst h; simp only [List.cons_append, List.nil_append]; rw [one_dq_esc _ rest (by omega)]; rfl
          · split
            · rename_i h; subst h; simp only [List.cons_append, List.nil_append]; rw [one_dq_esc _ rest (by omega)]; rfl
            · split
              · rename_i h; subst h; simp only [List.cons_append, List.nil_append]; rw [one_dq_esc _ rest (by omega)]; rfl
              · split
                · rename_i h; subst h; simp only [List.cons_append, List.nil_append]; rw [one_dq_esc _ rest (by omega)]; rfl
                · split
                  · rename_i h; subst h; simp only [List.cons_append, List.nil_append]; rw [one_dq_esc _ rest (by omega)]; rfl
                  · split
                    · rw [one_dq_hex b _ _ rest hb]; rfl
                    · split
                      · rw [one_dq_hex b _ _ rest hb]; rfl
                      · rename_i h1 h2
                        simp only [List.cons_append, List.nil_append]
                        rw [one_dq_esc b rest h1, unescI_id h2]
                        rfl
        · split
          · rw [one_dq_hex b _ _ rest hb]; rfl
          · rw [one_dq_hex b _ _ rest hb]; rfl

theorem aq_dq (tail : List Int) : ∀ (L : List (Int × Int)) (f : Nat), (∀ x ∈ L, 0 ≤ x.2 ∧ x.2 ≤ 255) → L.length < f →
    aq 34 f (L.flatMap (fun x => encB x.1 x.2) ++ 34 :: tail) = some (L.map (·.2), (L.flatMap fun x => encB x.1 x.2).length + 1) := by
  intro L
  induction L with
  | nil =>
    intro f _ hf
    cases f with
    | zero => simp at hf
    | succ f => simp [aq, one]
  | cons x L ih =>
    intro f hall hf
    cases f with
    | zero => simp at hf
    | succ f =>
      have hx := hall x (by simp)
      have h1 := one_dq x.1 x.2 (L.flatMap (fun x => encB x.1 x.2) ++ 34 :: tail) hx
      have h2 := ih f (fun y hy => hall y (by simp [hy])) (by simp at hf; omega)
      rw [List.flatMap_cons, List.append_assoc]
      rw [aq, h1]
      simp only [List.drop_left, h2, Option.map_some, List.map_cons, List.length_append]
      rw [Nat.add_assoc]

theorem dqTo_list (p style : List Int) : dqTo p style p.length = (((List.range p.length).map fun t => (modeI style t % 6, p.getD t 0))).flatMap fun x => encB x.1 x.2 := by
  unfold dqTo
  rw [List.flatMap_map]

theorem map_getD_range (p : List Int) : (List.range p.length).map (fun t => p.getD t 0) = p := by
  apply List.ext_getElem
  · simp
  · intro i h1 h2
    simp [List.getD, h2]

/-- The decoder inverts the encoder, whatever lies behind. -/
theorem aq_enc (p style tail : List Int) (f : Nat) (hp : ∀ x ∈ p, 0 ≤ x ∧ x ≤ 255) (hf : p.length < f) : aq 34 f (dqTo p style p.length ++ 34 :: tail) = some (p, (dqTo p style p.length).length + 1) := by
  rw [dqTo_list]
  have h := aq_dq tail ((List.range p.length).map fun t => (modeI style t % 6, p.getD t 0)) f ?_ (by simpa using hf)
  · rw [h]
    rw [List.map_map]
    have e : ((fun x : Int × Int => x.2) ∘ fun t => (modeI style t % 6, p.getD t 0)) = fun t => p.getD t 0 := rfl
    rw [e, map_getD_range]
  · intro x hx
    simp only [List.mem_map, List.mem_range] at hx
    obtain ⟨t, ht, rfl⟩ := hx
    have e : p.getD t 0 = p[t] := by simp [List.getD, ht]
    simp only [e]
    exact hp _ (List.getElem_mem ht)

end Go.Proofs.Qxb6606283a
