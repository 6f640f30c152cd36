/-
  SEAT b6606283a: A SLICE OF BYTE SLICES THAT THE CALL ITSELF MAKES; THE PLAIN SPLITTER BY THE INDEX.
-/
import Derived.Test.Qxb6606283aSplitEnc2
namespace Go.Proofs.Qxb6606283a
open Go.RowKit
set_option linter.unusedVariables false

theorem Try.info22 : (Try.prog.info? 22).map (fun i => (i.zero, i.size, i.bytes)) = some (some (.slice none 0 0), 1, 24) := by kernel_rfl

/-- The bytes of one word, in a block other than X. -/
def VwX (w : World) (a : Option Addr) (zs : List Int) (X : Option Nat) : Prop :=
  ∀ i, i < zs.length → ∃ b off, a = some ⟨b, off, none⟩ ∧ w.cell? ⟨b, off + i, none⟩ = some (.int .u8 (zs.getD i 0)) ∧ some b ≠ X

theorem VwX.vw {w : World} {a : Option Addr} {zs : List Int} {X : Option Nat} (h : VwX w a zs X) : Vw .u8 w a zs := by
  intro i hi
  obtain ⟨b, off, h1, h2, _⟩ := h i hi
  exact ⟨b, off, h1, h2⟩

theorem Vw.vwx {w : World} {a : Option Addr} {zs : List Int} (h : Vw .u8 w a zs) {X : Option Nat} (hX : ∀ b off, a = some ⟨b, off, none⟩ → some b ≠ X) : VwX w a zs X := by
  intro i hi
  obtain ⟨b, off, h1, h2⟩ := h i hi
  exact ⟨b, off, h1, h2, hX b off h1⟩

/-- The value v owns a row of byte slices that read as ws. -/
def WOwn (base : Nat) (w : World) (v : Value) (ws : List (List Int)) : Prop :=
  ∃ vs, w.ownsRow base 22 1 v ws.length vs ∧ ∀ t, t < ws.length → ∃ a c, vs[t]? = some (.slice a (ws.getD t []).length c) ∧ (a = none → c = 0) ∧ VwX w a (ws.getD t []) v.ownBlock

theorem WOwn.nil (base : Nat) (w : World) : WOwn base w (.slice none 0 0) [] := ⟨[], World.ownsRow_nil _ _ _ _, fun t ht => absurd ht (by simp)⟩

theorem WOwn.below {base : Nat} {w w' : World} {v : Value} {ws : List (List Int)} (h : WOwn base w v ws) (hb : Below w.heap.size w w') : WOwn base w' v ws := by
  obtain ⟨vs, ho, hall⟩ := h
  refine ⟨vs, ⟨ho.1, ?_⟩, ?_⟩
  · rcases ho.2 with h0 | ⟨g, cap, cur, hv, hg, hh, r⟩
    · exact Or.inl h0
    · exact Or.inr ⟨g, cap, cur, hv, hg, (hb.block g (Array.getElem?_eq_some_iff.1 hh).1).trans hh, r⟩
  · intro t ht
    obtain ⟨a, c, h1, h0, h2⟩ := hall t ht
    refine ⟨a, c, h1, h0, fun i hi => ?_⟩
    obtain ⟨b, off, g1, g2, g3⟩ := h2 i hi
    exact ⟨b, off, g1, (hb.cell (block_lt_of_cell g2)).trans g2, g3⟩

theorem WOwn.shape {base : Nat} {w : World} {v : Value} {ws : List (List Int)} (h : WOwn base w v ws) : ∃ a c, v = .slice a ws.length c ∧ WsV w a ws ∧ ws.length ≤ maxLen := by
  obtain ⟨vs, ho, hall⟩ := h
  rcases ho.2 with ⟨h0, h1⟩ | ⟨g, cap, cur, hv, hg, hh, hc, hm, r⟩
  · refine ⟨none, 0, ?_, ?_, by omega⟩
    · rw [h0, h1]
    · intro t ht; omega
  · refine ⟨some ⟨g, 0, none⟩, cap, hv, ?_, by omega⟩
    intro t ht
    obtain ⟨a, c, h1, h0, h2⟩ := hall t ht
    rw [hv] at ho
    refine ⟨g, 0, a, c, rfl, ?_, h0, h2.vw⟩
    rw [ho.cellAt (0 + t) (by omega)]
    simpa using h1

/-- 'append(words, word)'. -/
theorem WOwn.push {base : Nat} {w w' : World} {v v' : Value} {ws : List (List Int)} {vs : List Value} {wd : List Int} {a : Option Addr} {c : Nat} {o : Obj}
    (ho : w.ownsRow base 22 1 v ws.length vs) (hall : ∀ t, t < ws.length → ∃ a c, vs[t]? = some (.slice a (ws.getD t []).length c) ∧ (a = none → c = 0) ∧ VwX w a (ws.getD t []) v.ownBlock)
    (hwd : VwX w a wd v.ownBlock) (hac : a = none → c = 0) (ho' : w'.ownsRow base 22 1 v' (ws.length + 1) (vs ++ [.slice a wd.length c])) (hg : (w.alloc o).grownBy w' v.ownBlock)
    (hat : v'.ownBlock = v.ownBlock ∨ v'.ownBlock = some (w.heap.size + 1)) : WOwn base w' v' (ws ++ [wd]) := by
  have hl : vs.length = ws.length := by have := ho.1; omega
  have keep : ∀ (a : Option Addr) (zs : List Int), VwX w a zs v.ownBlock → VwX w' a zs v'.ownBlock := by
    intro a zs h i hi
    obtain ⟨b, off, g1, g2, g3⟩ := h i hi
    have hlt := block_lt_of_cell g2
    have g2' : (w.alloc o).cell? ⟨b, off + i, none⟩ = some (.int .u8 (zs.getD i 0)) := by
      rw [World.cell?_alloc_past _ _ _ hlt]; exact g2
    refine ⟨b, off, g1, hg.cell g2' g3, ?_⟩
    rcases hat with h | h
    · rw [h]; exact g3
    · rw [h]
      intro e
      have e' : b = w.heap.size + 1 := by simpa using e
      simp at hlt
      omega
  refine ⟨vs ++ [.slice a wd.length c], by rw [List.length_append]; exact ho', ?_⟩
  intro t ht
  by_cases hlt : t < ws.length
  · obtain ⟨a1, c1, h1, h0, h2⟩ := hall t hlt
    have e : (ws ++ [wd]).getD t [] = ws.getD t [] := by simp [List.getD, hlt, List.getElem?_append_left]
    rw [e]
    exact ⟨a1, c1, by rw [List.getElem?_append_left (by omega)]; exact h1, h0, keep _ _ h2⟩
  · have et : t = ws.length := by simp at ht; omega
    subst et
    have e : (ws ++ [wd]).getD ws.length [] = wd := by simp [List.getD]
    rw [e]
    exact ⟨a, c, by rw [← hl]; simp, hac, keep _ _ hwd⟩

/-! ### The plain splitter by the index -/
theorem sww_end {N f : Nat} {line : List Int} {j : Nat} {rw : List Int} {k : Nat} (h : sww N f (line.drop j) = some (rw, k)) (he : line.length ≤ j ∨ wsB (line.getD j 0) = true) : rw = [] ∧ k = 0 := by
  cases f with
  | zero => simp [sww] at h
  | succ f =>
    by_cases hj : j < line.length
    · have hw : wsB (line.getD j 0) = true := by rcases he with h' | h'; omega; exact h'
      rw [drop_cons hj] at h
      simp only [sww, hw, if_true, Option.some.injEq, Prod.mk.injEq] at h
      exact ⟨h.1.symm, h.2.symm⟩
    · rw [List.drop_eq_nil_of_le (by omega)] at h
      simp only [sww, Option.some.injEq, Prod.mk.injEq] at h
      exact ⟨h.1.symm, h.2.symm⟩

theorem sww_char {N f : Nat} {line : List Int} {j : Nat} {rw : List Int} {k : Nat} (h : sww N f (line.drop j) = some (rw, k)) (hj : j < line.length) (hw : wsB (line.getD j 0) = false) (hq : qtB (line.getD j 0) = false) :
    ∃ f' rw' k', rw = line.getD j 0 :: rw' ∧ k = k' + 1 ∧ sww N f' (line.drop (j + 1)) = some (rw', k') := by
  cases f with
  | zero => simp [sww] at h
  | succ f =>
    rw [drop_cons hj] at h
    simp only [sww, hw, hq, Bool.false_eq_true, if_false, if_true] at h
    rw [Option.map_eq_some_iff] at h
    obtain ⟨⟨r1, r2⟩, h1, h2⟩ := h
    simp only [Prod.mk.injEq] at h2
    exact ⟨f, r1, r2, h2.1.symm, h2.2.symm, h1⟩

theorem sww_quote {N f : Nat} {line : List Int} {j : Nat} {rw : List Int} {k : Nat} (h : sww N f (line.drop j) = some (rw, k)) (hj : j < line.length) (hw : wsB (line.getD j 0) = false) (hq : qtB (line.getD j 0) = true) :
    ∃ kq, aq (line.getD j 0) N (line.drop (j + 1)) = some (rw, kq) ∧ k = kq + 1 ∧ (line.length ≤ j + 1 + kq ∨ wsB (line.getD (j + 1 + kq) 0) = true) := by
  cases f with
  | zero => simp [sww] at h
  | succ f =>
    rw [drop_cons hj] at h
    simp only [sww, hw, hq, Bool.false_eq_true, if_false, Bool.true_eq_false] at h
    split at h
    · cases h
    · rename_i bs kq haq
      rw [List.drop_drop] at h
      split at h
      · rename_i hd
        simp only [Option.some.injEq, Prod.mk.injEq] at h
        obtain ⟨rfl, rfl⟩ := h
        refine ⟨kq, haq, rfl, Or.inl ?_⟩
        have := congrArg List.length hd
        simp at this
        omega
      · rename_i d r hd
        split at h
        · rename_i hwd
          simp only [Option.some.injEq, Prod.mk.injEq] at h
          obtain ⟨rfl, rfl⟩ := h
          refine ⟨kq, haq, rfl, Or.inr ?_⟩
          have hlt : j + 1 + kq < line.length := by
            have := congrArg List.length hd
            simp at this
            omega
          rw [drop_cons hlt] at hd
          simp only [List.cons.injEq] at hd
          rw [hd.1]
          exact hwd
        · cases h

theorem sww_at_end {N : Nat} {line : List Int} {j : Nat} (he : line.length ≤ j ∨ wsB (line.getD j 0) = true) : sww N 1 (line.drop j) = some ([], 0) := by
  by_cases hj : j < line.length
  · have hw : wsB (line.getD j 0) = true := by rcases he with h' | h'; omega; exact h'
    rw [drop_cons hj]
    simp only [sww, hw, if_true]
  · rw [List.drop_eq_nil_of_le (by omega)]
    rfl

theorem sww_le {N : Nat} {line : List Int} : ∀ (f j : Nat) {rw : List Int} {k : Nat}, j ≤ line.length → sww N f (line.drop j) = some (rw, k) → j + k ≤ line.length := by
  intro f
  induction f with
  | zero => intro j rw k _ h; simp [sww] at h
  | succ f ih =>
    intro j rw k hj h
    by_cases he : line.length ≤ j ∨ wsB (line.getD j 0) = true
    · have := sww_end h he; omega
    · have hjl : j < line.length := by omega
      have hw : wsB (line.getD j 0) = false := by
        cases hh : wsB (line.getD j 0)
        · rfl
        · exact absurd (Or.inr hh) he
      cases hq : qtB (line.getD j 0)
      · rw [drop_cons hjl] at h
        simp only [sww, hw, hq, Bool.false_eq_true, if_false, if_true] at h
        rw [Option.map_eq_some_iff] at h
        obtain ⟨⟨r1, r2⟩, h1, h2⟩ := h
        simp only [Prod.mk.injEq] at h2
        have := ih (j + 1) (by omega) h1
        omega
      · obtain ⟨kq, h1, h2, _⟩ := sww_quote h hjl hw hq
        obtain ⟨_, g2, _⟩ := aq_span _ _ h1
        simp only [List.length_drop] at g2
        omega

/-- A round of the whole splitter. -/
theorem swf_round {N f : Nat} {line : List Int} {i : Nat} {R : List (List Int)} (h : swf N f (line.drop i) = some R) (hi : i ≤ line.length) :
    (i + skipN (line.drop i) = line.length ∧ R = []) ∨
    (i + skipN (line.drop i) < line.length ∧ wsB (line.getD (i + skipN (line.drop i)) 0) = false ∧
      ∃ wd k R' f', sww N N (line.drop (i + skipN (line.drop i))) = some (wd, k) ∧ R = wd :: R' ∧ swf N f' (line.drop (i + skipN (line.drop i) + k)) = some R' ∧ 1 ≤ k) := by
  cases f with
  | zero => simp [swf] at h
  | succ f =>
    have hsl := skipN_le (line.drop i)
    simp only [List.length_drop] at hsl
    have hse := skipN_end (line.drop i)
    simp only [swf, List.drop_drop] at h
    generalize skipN (line.drop i) = s at hsl hse h ⊢
    by_cases hlt : i + s < line.length
    · refine Or.inr ⟨hlt, ?_, ?_⟩
      · have := hse (by rw [List.length_drop]; omega)
        simpa [List.getD] using this
      · have hw : wsB (line.getD (i + s) 0) = false := by
          have := hse (by rw [List.length_drop]; omega)
          simpa [List.getD] using this
        have hdc := drop_cons hlt
        split at h
        · rename_i hd
          rw [hd] at hdc
          cases hdc
        · rename_i c r hd
          rw [← hd] at h
          split at h
          · cases h
          · rename_i wd k hsw
            rw [Option.map_eq_some_iff] at h
            obtain ⟨R', h1, h2⟩ := h
            rw [List.drop_drop] at h1
            refine ⟨wd, k, R', f, hsw, h2.symm, h1, ?_⟩
            rcases Nat.eq_zero_or_pos k with hk | hk
            · exfalso
              subst hk
              cases hq : qtB (line.getD (i + s) 0)
              · obtain ⟨_, _, _, _, h3, _⟩ := sww_char hsw hlt hw hq
                omega
              · obtain ⟨_, _, h3, _⟩ := sww_quote hsw hlt hw hq
                omega
            · exact hk
    · refine Or.inl ⟨by omega, ?_⟩
      rw [List.drop_eq_nil_of_le (by omega : line.length ≤ i + s)] at h
      simp only [Option.some.injEq] at h
      exact h.symm

end Go.Proofs.Qxb6606283a
