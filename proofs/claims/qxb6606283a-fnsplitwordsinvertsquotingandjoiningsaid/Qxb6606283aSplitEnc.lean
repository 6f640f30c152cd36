/-
  SEAT b6606283a: THE WALKS OF 'b1AppendSingleQuoted' AND 'b1AppendWord'.
-/
import Derived.Test.Qxb6606283aSplitBase
namespace Go.Proofs.Qxb6606283a
open Go.RowKit
set_option linter.unusedVariables false

theorem sqTo_take {p : List Int} {k : Nat} (hk : k < p.length) : sqTo (p.take (k + 1)) = sqTo (p.take k) ++ (if p.getD k 0 = 39 then [92, 39] else [p.getD k 0]) := by
  unfold sqTo
  rw [List.take_succ_eq_append_getElem hk, List.flatMap_append]
  simp [List.getD, hk]

/-- A cell of a block that is neither the slice's own row nor new is as it was. -/
theorem kept_far {w0 wr w' : World} {v0 u v' : Value} {b o : Nat} {x : Value} (hK : Kept w0 v0 wr u) (hK' : Kept wr u w' v') (hne : some b ≠ v0.ownBlock) (hlt : b < w0.heap.size) (hc : wr.cell? ⟨b, o, none⟩ = some x) : w'.cell? ⟨b, o, none⟩ = some x := by
  refine hK'.1.cell hc ?_
  intro e
  have e' : some b = u.ownBlock := e
  rcases hK.2 with h | ⟨t, h, ht⟩
  · exact hne (e'.trans h)
  · rw [h] at e'
    cases e'
    omega

set_option maxHeartbeats 1000000 in
theorem sq_any (base : Nat) (v0 : Value) (ap : Option Addr) (n cp : Nat) (zs p : List Int) (w : World) (ho : Ob base w v0 zs) (hbase : base ≤ w.heap.size)
    (hv : Vw .u8 w ap p) (hn : p.length = n) (hne1 : ∀ b off, ap = some ⟨b, off, none⟩ → some b ≠ v0.ownBlock) (hb : zs.length + 4 * n ≤ 1073741824) :
    Calls Try.prog 21 #[v0, .slice ap n cp] w fun e w' => AppPost base w v0 zs (sq p) e w' := by
  have Hn : Hid (p.length = n) := hn
  have HN1 : Hid (∀ b off, ap = some ⟨b, off, none⟩ → some b ≠ v0.ownBlock) := hne1
  clear hn hne1
  go_enter Try.func21, Try.ntmps21
  go_wp2_with (at_builtin; refine wpList_appN w #[.int .u8 39] rfl _ _ rfl base v0 zs rfl ho hbase [39] rfl 1 1 rfl (by intro h; cases h) rfl (by omega) ?_)
  intro v1 w1 hO1 hK1
  go_wp2
  go_loopw [0, 5] (fun v t wr => ∃ k : Nat, t = .int .i64 k ∧ k ≤ n ∧ Ob base wr v (zs ++ (39 :: sqTo (p.take k))) ∧ Kept w v0 wr v) (fun _ t _ => n - (intOf t).toNat)
  case atStart => exact ⟨0, rfl, Nat.zero_le _, hO1, hK1⟩
  case round =>
    clear hO1 hK1
    obtain ⟨k, rfl, hk, hO, hK⟩ := hrel
    have hbr : base ≤ wr.heap.size := Nat.le_trans hbase hK.1.size
    have hdl := (sqTo_len (p.take k)).2
    have hbd : (zs ++ (39 :: sqTo (p.take k))).length ≤ 1099511627700 := by
      rw [List.length_append, List.length_cons]
      have : (p.take k).length ≤ k := List.length_take_le _ _
      omega
    by_cases hlt : k < n
    · obtain ⟨b1, o1, ha, hc⟩ := (hK.vw hv HN1.out) k (by have := Hn.out; omega)
      subst ha
      have HS : Hid (sqTo (p.take (k + 1)) = sqTo (p.take k) ++ (if p.getD k 0 = 39 then [92, 39] else [p.getD k 0])) := sqTo_take (by have := Hn.out; omega)
      by_cases h39 : p.getD k 0 = 39
      · have HE : Hid (sqTo (p.take (k + 1)) = sqTo (p.take k) ++ [92, 39]) := by rw [HS.out, if_pos h39]; rfl
        rw [h39] at hc
        clear h39 HS
        go_wp2_with (at_builtin; refine wpList_appN wr #[.int .u8 92] rfl _ _ rfl base u0 (zs ++ (39 :: sqTo (p.take k))) rfl hO hbr [92] rfl 1 1 rfl (by intro h; cases h) rfl (by omega) ?_)
        intro v' w' hO' hK'
        have hc' : w'.cell? ⟨b1, o1 + k, none⟩ = some (.int .u8 39) := by
          obtain ⟨b2, o2, h2, _, hb2⟩ := hv.lt k (by have := Hn.out; omega)
          cases h2
          exact kept_far hK hK' (HN1.out b1 o1 rfl) hb2 hc
        have hbr' : base ≤ w'.heap.size := Nat.le_trans hbr hK'.1.size
        have hbd' : (zs ++ (39 :: (sqTo (p.take k) ++ [92]))).length + 1 ≤ 1099511627776 := by simp at hbd ⊢; omega
        have hO2 : Ob base w' v' (zs ++ (39 :: (sqTo (p.take k) ++ [92]))) := by simpa using hO'
        clear hO' hO hc
        go_wp2_with (at_builtin; refine wpList_appN w' #[.int .u8 39] rfl _ _ rfl base v' (zs ++ (39 :: (sqTo (p.take k) ++ [92]))) rfl hO2 hbr' [39] rfl 1 1 rfl (by intro h; cases h) rfl hbd' ?_)
        intro v2 w2 hO3 hK3
        go_wp2
        go_roundw
        case rel => exact ⟨k + 1, by go_num, by omega, by rw [HE.out]; simpa using hO3, (hK.trans hK').trans hK3⟩
        case measure => simp [intOf]; omega
      · have HE : Hid (sqTo (p.take (k + 1)) = sqTo (p.take k) ++ [p.getD k 0]) := by rw [HS.out, if_neg h39]; rfl
        have h39b : (p.getD k 0 == 39) = false := beq_eq_false_iff_ne.2 h39
        generalize p.getD k 0 = x at hc h39b HE
        clear h39 HS
        go_wp2_with (at_builtin; refine wpList_appN wr #[.int .u8 x] rfl _ _ rfl base u0 (zs ++ (39 :: sqTo (p.take k))) rfl hO hbr [x] rfl 1 1 rfl (by intro h; cases h) rfl (by omega) ?_)
        intro v' w' hO' hK'
        go_wp2
        go_roundw
        case rel => exact ⟨k + 1, by go_num, by omega, by rw [HE.out]; simpa using hO', hK.trans hK'⟩
        case measure => simp [intOf]; omega
    · obtain rfl : k = n := by omega
      go_wp2_with (at_builtin; refine wpList_appN wr #[.int .u8 39] rfl _ _ rfl base u0 (zs ++ (39 :: sqTo (p.take k))) rfl hO hbr [39] rfl 1 1 rfl (by intro h; cases h) rfl (by omega) ?_)
      intro v' w' hO' hK'
      go_wp2
      go_ret
      refine ⟨v', rfl, ?_, hK.trans hK'⟩
      unfold sq
      rw [List.take_of_length_le (by rw [Hn.out]; omega)] at hO'
      simpa using hO'

/-- How long the bare head is. -/
def bareN : List Int → Nat
  | [] => 0
  | c :: r => if wsB c = false ∧ qtB c = false then bareN r + 1 else 0

theorem bareN_le (l : List Int) : bareN l ≤ l.length := by
  induction l with
  | nil => simp [bareN]
  | cons c r ih => unfold bareN; split <;> simp <;> omega

theorem bareN_at (l : List Int) : ∀ j, j < bareN l → wsB (l.getD j 0) = false ∧ qtB (l.getD j 0) = false := by
  induction l with
  | nil => intro j hj; simp [bareN] at hj
  | cons c r ih =>
    intro j hj
    unfold bareN at hj
    split at hj
    · rename_i hc
      cases j with
      | zero => simpa using hc
      | succ j => have := ih j (by omega); simpa using this
    · omega

theorem bareN_end (l : List Int) (h : bareN l < l.length) : ¬ (wsB (l.getD (bareN l) 0) = false ∧ qtB (l.getD (bareN l) 0) = false) := by
  induction l with
  | nil => simp at h
  | cons c r ih =>
    unfold bareN at h ⊢
    split
    · rename_i hc
      rw [if_pos hc] at h
      have := ih (by simpa using h)
      simpa using this
    · rename_i hc
      simpa using hc

theorem bareN_bare (l : List Int) : Bare (l.take (bareN l)) := by
  intro x hx
  obtain ⟨j, hj, rfl⟩ := List.getElem_of_mem hx
  have hj' : j < bareN l := by simp at hj; omega
  have h := bareN_at l j hj'
  have hl : j < l.length := by have := bareN_le l; omega
  have e : l.getD j 0 = l[j] := by simp [List.getD, hl]
  rw [e] at h
  simpa using h

/-- How a word is spelled. -/
def wordEnc (p : List Int) (m : Int) (style : List Int) : List Int :=
  if m % 3 = 1 ∧ (p = [] ∨ p.getD (p.length - 1) 0 ≠ 92) then sq p else
  if m % 3 = 2 then (if 0 < bareN p ∧ bareN p = p.length then p else p.take (bareN p) ++ dq (p.drop (bareN p)) style) else dq p style

theorem wordEnc_spells {p style : List Int} {m : Int} (hp : Bytes p) : Spells (wordEnc p m style) p := by
  unfold wordEnc
  split
  · rename_i h; exact spells_sq h.2
  · split
    · split
      · rename_i h
        have hb := bareN_bare p
        rw [List.take_of_length_le (by omega)] at hb
        exact spells_bare hb (by intro e; subst e; simp [bareN] at h)
      · have h := spells_dq (h := p.take (bareN p)) (p := p.drop (bareN p)) (style := style) (bareN_bare p) (fun x hx => hp x (List.mem_of_mem_drop hx))
        rw [List.take_append_drop] at h
        exact h
    · have h := spells_dq (h := []) (p := p) (style := style) (fun x hx => by cases hx) hp
      simpa using h

theorem wordEnc_len (p style : List Int) (m : Int) : (wordEnc p m style).length ≤ 4 * p.length + 2 := by
  have hd : ∀ q, (dq q style).length ≤ 4 * q.length + 2 := fun q => by have := dqTo_len q style q.length; simp [dq]; omega
  unfold wordEnc
  split
  · have := (sqTo_len p).2; simp [sq]; omega
  · split
    · split
      · omega
      · have := hd (p.drop (bareN p))
        have := bareN_le p
        rw [List.length_append]
        simp only [List.length_take, List.length_drop] at *
        omega
    · exact hd p

end Go.Proofs.Qxb6606283a
