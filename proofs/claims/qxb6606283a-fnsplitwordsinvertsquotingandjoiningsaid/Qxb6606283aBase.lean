/-
  SEAT b6606283a: THE SHARED WALKS: 'b1Clone', 'b1Same', the small functions; the law on append as this seat uses it.
-/
import Derived.Test.Qxb6606283aRows
import Derived.Test.Qxb6606283aPlain
import Derived.WalkKit
import Derived.WalkSpells
import Derived.WalkLawsBesides
import Derived.WalkSmall
import Derived.Maps.AppendAt
import Derived.Laws.CopyOwn
import Derived.Laws.AppendOwnNone
import Derived.Deep.QuietTactic
import Derived.BigQuiet
namespace Go.Proofs.Qxb6606283a
open Go.RowKit
set_option linter.unusedVariables false

/-- A slice of bytes at 'a' whose elements are the numbers 'zs', as they can be read in 'w'. -/
def Vw (k : IntKind) (w : World) (a : Option Addr) (zs : List Int) : Prop :=
  ∀ i, i < zs.length → ∃ b off, a = some ⟨b, off, none⟩ ∧ w.cell? ⟨b, off + i, none⟩ = some (.int k (zs.getD i 0))

theorem Vw.lt {k : IntKind} {w : World} {a : Option Addr} {zs : List Int} (h : Vw k w a zs) (i : Nat) (hi : i < zs.length) : ∃ b off, a = some ⟨b, off, none⟩ ∧ w.cell? ⟨b, off + i, none⟩ = some (.int k (zs.getD i 0)) ∧ b < w.heap.size := by
  obtain ⟨b, off, ha, hc⟩ := h i hi
  exact ⟨b, off, ha, hc, block_lt_of_cell hc⟩

theorem Vw.below {k : IntKind} {w w' : World} {a : Option Addr} {zs : List Int} (h : Vw k w a zs) (hb : Below w.heap.size w w') : Vw k w' a zs := by
  intro i hi
  obtain ⟨b, off, ha, hc, hl⟩ := h.lt i hi
  exact ⟨b, off, ha, (hb.cell hl).trans hc⟩

theorem Vw.drewN {k : IntKind} {w : World} {a : Option Addr} {zs : List Int} (h : Vw k w a zs) (n : Nat) : Vw k (w.drewN n) a zs := by
  intro i hi
  obtain ⟨b, off, ha, hc⟩ := h i hi
  exact ⟨b, off, ha, hc⟩

theorem Vw.grown {k : IntKind} {w w' : World} {a : Option Addr} {zs : List Int} {row : Option Nat} (h : Vw k w a zs) (hg : w.grownBy w' row) (hne : ∀ b off, a = some ⟨b, off, none⟩ → some b ≠ row) : Vw k w' a zs := by
  intro i hi
  obtain ⟨b, off, ha, hc⟩ := h i hi
  exact ⟨b, off, ha, hg.cell hc (hne b off ha)⟩

theorem vw_nil (k : IntKind) (w : World) (a : Option Addr) : Vw k w a [] := fun i hi => absurd hi (by simp)

theorem vw_of_row {k : IntKind} {w : World} {x : Addr} {len : Nat} {zs : List Int} (hl : len ≤ zs.length) (hc : ∀ i, i < zs.length → w.cell? (x.add i) = some (.int k (zs.getD i 0))) : Vw k w (some x) (zs.take len) := by
  intro i hi
  have hi' : i < len := by simp at hi; omega
  have h := hc i (by omega)
  obtain ⟨b, off, spot⟩ := x
  have hspot : spot = none := by simpa [Addr.add] using World.cell?_spot (hc 0 (by omega))
  subst hspot
  refine ⟨b, off, rfl, ?_⟩
  rw [Addr.add_lit] at h
  rw [h]
  simp [List.getD, hi']

theorem list_ext_map {k : IntKind} {xs : List Value} {zs : List Int} (hl : xs.length = zs.length) (h : ∀ j, j < zs.length → xs[j]? = some (.int k (zs.getD j 0))) : xs = zs.map (.int k) := by
  apply List.ext_getElem?
  intro j
  by_cases hj : j < zs.length
  · rw [h j hj]; simp [List.getD, hj]
  · rw [List.getElem?_eq_none (by omega), List.getElem?_eq_none (by simp; omega)]

/-- The slice value v owns the bytes zs in a row from block 'base' on. -/
def Ob (base : Nat) (w : World) (v : Value) (zs : List Int) : Prop := w.ownsRow base 5 1 v zs.length (zs.map (.int .u8))

theorem Ob.shape {base : Nat} {w : World} {v : Value} {zs : List Int} (h : Ob base w v zs) : ∃ a c, v = .slice a zs.length c ∧ zs.length ≤ c ∧ c ≤ maxLen ∧ (a = none → c = 0) ∧ Vw .u8 w a zs ∧ ∀ b off, a = some ⟨b, off, none⟩ → base ≤ b ∧ b < w.heap.size ∧ v.ownBlock = some b := by
  rcases h.2 with ⟨rfl, h0⟩ | ⟨g, cap, cur, rfl, hb, hh, hc, hm, _⟩
  · have hz : zs = [] := List.eq_nil_of_length_eq_zero h0
    subst hz
    exact ⟨none, 0, rfl, Nat.le_refl _, Nat.zero_le _, fun _ => rfl, vw_nil _ _ _, fun b off h => by cases h⟩
  · refine ⟨some ⟨g, 0, none⟩, cap, rfl, hc, hm, (fun h => by cases h), ?_, ?_⟩
    · intro i hi
      refine ⟨g, 0, rfl, ?_⟩
      have := World.ownsRow.cellAt h (0 + i) (by omega)
      rw [this]
      simp [List.getD, hi]
    · intro b off h
      cases h
      exact ⟨hb, (Array.getElem?_eq_some_iff.1 hh).1, rfl⟩

theorem Ob.vw {base : Nat} {w : World} {a : Option Addr} {n c : Nat} {zs : List Int} (h : Ob base w (.slice a n c) zs) : Vw .u8 w a zs := by
  obtain ⟨a', c', e, _, _, _, hv, _⟩ := h.shape
  cases e
  exact hv

theorem Ob.far {base : Nat} {w : World} {a : Option Addr} {n c : Nat} {zs : List Int} (h : Ob base w (.slice a n c) zs) : ∀ b off, a = some ⟨b, off, none⟩ → base ≤ b ∧ b < w.heap.size := by
  obtain ⟨a', c', e, _, _, _, _, hf⟩ := h.shape
  cases e
  exact fun b off hb => ⟨(hf b off hb).1, (hf b off hb).2.1⟩

theorem Ob.mono {base base' : Nat} {w : World} {v : Value} {zs : List Int} (h : Ob base w v zs) (hb : base' ≤ base) : Ob base' w v zs := by
  refine ⟨h.1, ?_⟩
  rcases h.2 with h0 | ⟨g, cap, cur, hv, hg, r⟩
  · exact Or.inl h0
  · exact Or.inr ⟨g, cap, cur, hv, by omega, r⟩

theorem Ob.below {base : Nat} {w w' : World} {v : Value} {zs : List Int} (h : Ob base w v zs) (hb : Below w.heap.size w w') : Ob base w' v zs := by
  refine ⟨h.1, ?_⟩
  rcases h.2 with h0 | ⟨g, cap, cur, hv, hg, hh, r⟩
  · exact Or.inl h0
  · exact Or.inr ⟨g, cap, cur, hv, hg, (hb.block g (Array.getElem?_eq_some_iff.1 hh).1).trans hh, r⟩

theorem Ob.alloc {base : Nat} {w : World} {v : Value} {zs : List Int} (h : Ob base w v zs) (o : Obj) : Ob base (w.alloc o) v zs := World.ownsRow.alloc h o

theorem Ob.drew {base : Nat} {w : World} {v : Value} {zs : List Int} (h : Ob base w v zs) : Ob base w.drew v zs := h
theorem Vw.drew {k : IntKind} {w : World} {a : Option Addr} {zs : List Int} (h : Vw k w a zs) : Vw k w.drew a zs := h

/-- From the world w0, in which the slice was v0, to the world w, in which it is v: nothing has turned but v0's own row; v lies there or in a new block. -/
def Kept (w0 : World) (v0 : Value) (w : World) (v : Value) : Prop := w0.grownBy w v0.ownBlock ∧ (v.ownBlock = v0.ownBlock ∨ ∃ k, v.ownBlock = some k ∧ w0.heap.size ≤ k)

theorem Kept.refl (w : World) (v : Value) : Kept w v w v := ⟨World.grownBy.refl _ _, Or.inl rfl⟩

theorem Kept.trans {w0 w1 w2 : World} {v0 v1 v2 : Value} (h : Kept w0 v0 w1 v1) (k : Kept w1 v1 w2 v2) : Kept w0 v0 w2 v2 := by
  obtain ⟨h1, h2⟩ := h
  obtain ⟨k1, k2⟩ := k
  refine ⟨⟨k1.os.trans h1.os, k1.tape.trans h1.tape, k1.output.trans h1.output, Nat.le_trans h1.size k1.size, ?_⟩, ?_⟩
  · intro b hb hne
    refine (k1.block b (by have := h1.size; omega) ?_).trans (h1.block b hb hne)
    intro e
    rcases h2 with h2 | ⟨t, h2, ht⟩
    · exact hne (e.trans h2)
    · rw [h2] at e; cases e; omega
  · rcases k2 with k2 | ⟨t, k2, ht⟩
    · rw [k2]; exact h2
    · exact Or.inr ⟨t, k2, by have := h1.size; omega⟩

theorem Kept.alloc {w0 w : World} {v0 v : Value} (h : Kept w0 v0 w v) (o : Obj) : Kept w0 v0 (w.alloc o) v := h.trans ⟨World.grownBy_alloc w o _, Or.inl rfl⟩

theorem Kept.drewN {w0 w : World} {v0 v : Value} (h : Kept w0 v0 w v) (n : Nat) : Kept w0 v0 (w.drewN n) v := h.trans ⟨⟨rfl, rfl, rfl, Nat.le_refl _, fun _ _ _ => rfl⟩, Or.inl rfl⟩

theorem Kept.vw {k : IntKind} {w0 w : World} {v0 v : Value} {a : Option Addr} {zs : List Int} (h : Kept w0 v0 w v) (hv : Vw k w0 a zs) (hne : ∀ b off, a = some ⟨b, off, none⟩ → some b ≠ v0.ownBlock) : Vw k w a zs := hv.grown h.1 hne

theorem Kept.below {B : Nat} {w0 w : World} {v0 v : Value} {zs : List Int} (h : Kept w0 v0 w v) (ho : Ob B w0 v0 zs) (hB : B ≤ w0.heap.size) : Below B w0 w := by
  refine (Below.refl B w0).grown h.1 hB ?_
  intro k hk
  exact (World.ownsRow.lt ho k hk).1

theorem Try.info5 : (Try.prog.info? 5).map (fun i => (i.zero, i.size, i.bytes)) = some (some (.int .u8 0), 1, 1) := by kernel_rfl

/-- append, as this seat uses it: onto a slice of the call's own, from whatever slice that can be read. -/
theorem run_app (w : World) (ty : TypeId) (base : Nat) (v : Value) (zs : List Int) (hown : Ob base w v zs) (hbase : base ≤ w.heap.size)
    (ad : Option Addr) (m c : Nat) (news : List Int) (hnone : ad = none → c = 0) (hsrc : Vw .u8 w ad news) (hm : news.length = m) (hb : zs.length + m ≤ 1099511627776) :
    ∃ v' w', (Builtin.append_ #[22, 22] ty #[v, .slice ad m c]).run Try.prog w = .ok v' w' ∧ Ob base w' v' (zs ++ news) ∧ Kept w v w' v' := by
  obtain ⟨i0, hi, hz0, hz1, hz2⟩ := info_parts Try.info5
  cases ad with
  | none =>
    have hn0 : news = [] := by
      cases news with
      | nil => rfl
      | cons y ys => obtain ⟨b, off, h', _⟩ := hsrc 0 (by simp); cases h'
    subst hn0
    obtain rfl : m = 0 := by simpa using hm.symm
    obtain rfl := hnone rfl
    exact ⟨v, w, run_append_owned_none (P := Try.prog) w base 22 ty 5 i0 1 Try.underlying22 hi v zs.length (zs.map (.int .u8)) hown, by simpa using hown, Kept.refl _ _⟩
  | some ad =>
    obtain ⟨v', w', hr, h1, h2, _, h4⟩ := run_append_own_at (P := Try.prog) w base 22 ty 5 i0 (.int .u8 0) 1 1 Try.underlying22 hi hz0 hz1 hz2 rfl (by decide) v zs.length (zs.map (.int .u8)) hown ad m c (news.map (.int .u8)) (by simp [hm]) (by
      intro j u hj
      have hj' : j < news.length := by
        have := (List.getElem?_eq_some_iff.1 hj).1
        simpa using this
      obtain ⟨b, off, hb', hc⟩ := hsrc j hj'
      cases hb'
      rw [Addr.add_lit, hc]
      rw [← hj]
      simp [List.getD, hj']) (ints_oneCell _ _) (by unfold maxLen; omega) (by omega) hbase
    refine ⟨v', w', hr, ?_, h2, ?_⟩
    · unfold Ob
      rw [List.length_append, List.map_append, hm]
      exact h1
    · rcases h4 with h4 | h4
      · exact Or.inl h4
      · exact Or.inr ⟨_, h4, Nat.le_refl _⟩

theorem wp_app {o : Oper} {a : Act} {K : Act → World → Prop} {Q : Exit → Act → World → Prop} (w : World) (s x : Operand)
    (ho : o.op = .call { callee := .builtin .append, args := #[s, x], argTypes := #[22, 22] }) (base : Nat) (v : Value) (zs : List Int) (hs : a.eval s = v) (hown : Ob base w v zs) (hbase : base ≤ w.heap.size)
    (ad : Option Addr) (m c : Nat) (news : List Int) (hx : a.eval x = .slice ad m c) (hnone : ad = none → c = 0) (hsrc : Vw .u8 w ad news) (hm : news.length = m) (hb : zs.length + m ≤ 1099511627776)
    (h : ∀ v' w', Ob base w' v' (zs ++ news) → Kept w v w' v' → K (a.put o.dst v') w') : o.wp Try.prog a w K Q := by
  obtain ⟨v', w', hr, h1, h2⟩ := run_app w o.type base v zs hown hbase ad m c news hnone hsrc hm hb
  unfold Oper.wp execOp
  simp only [ho, resolve, invoke, builtin, Sem.run_bind, Sem.run_pure, Result.andThen_ok, List.map_toArray, List.map_cons, List.map_nil, hs, hx, hr]
  exact h v' w' h1 h2

theorem wpList_app {ops : Array Oper} {rest : List Oper} {o : Oper} {a : Act} {Q : Exit → Act → World → Prop} (w : World) (hgd : o.guard = none) (s x : Operand)
    (ho : o.op = .call { callee := .builtin .append, args := #[s, x], argTypes := #[22, 22] }) (base : Nat) (v : Value) (zs : List Int) (hs : a.eval s = v) (hown : Ob base w v zs) (hbase : base ≤ w.heap.size)
    (ad : Option Addr) (m c : Nat) (news : List Int) (hx : a.eval x = .slice ad m c) (hnone : ad = none → c = 0) (hsrc : Vw .u8 w ad news) (hm : news.length = m) (hb : zs.length + m ≤ 1099511627776)
    (h : ∀ v' w', Ob base w' v' (zs ++ news) → Kept w v w' v' → wpList Try.prog ops Q rest (a.put o.dst v') w') : wpList Try.prog ops Q (o :: rest) a w :=
  wpList_plain hgd fun _ hK => wp_app w s x ho base v zs hs hown hbase ad m c news hx hnone hsrc hm hb fun v' w' h1 h2 => hK _ _ (h v' w' h1 h2)

theorem vw_new {w : World} {cs : Array Value} {news : List Int} (hcs : cs = (news.map (.int .u8)).toArray) : Vw .u8 (w.alloc (.cells cs 5)) (some ⟨w.heap.size, 0, none⟩) news := by
  intro i hi
  refine ⟨w.heap.size, 0, rfl, ?_⟩
  rw [World.cell?_alloc_at _ _ _ _ rfl, hcs]
  simp [List.getD, hi]

/-- 'append(s, x, y ..)': the elements laid in a new block first. -/
theorem wpList_appN {ops : Array Oper} {rest : List Oper} {o : Oper} {a : Act} {Q : Exit → Act → World → Prop} (w : World) (cs : Array Value) (hgd : o.guard = none) (s x : Operand)
    (ho : o.op = .call { callee := .builtin .append, args := #[s, x], argTypes := #[22, 22] }) (base : Nat) (v : Value) (zs : List Int) (hs : a.eval s = v) (hown : Ob base w v zs) (hbase : base ≤ w.heap.size)
    (news : List Int) (hcs : cs = (news.map (.int .u8)).toArray) (m c : Nat) (hm : news.length = m) (hc : (some (⟨w.heap.size, 0, none⟩ : Addr)) = none → c = 0) (hx : a.eval x = .slice (some ⟨w.heap.size, 0, none⟩) m c) (hb : zs.length + m ≤ 1099511627776)
    (h : ∀ v' w', Ob base w' v' (zs ++ news) → Kept w v w' v' → wpList Try.prog ops Q rest (a.put o.dst v') w') : wpList Try.prog ops Q (o :: rest) a (w.alloc (.cells cs 5)) := by
  exact wpList_app _ hgd s x ho base v zs hs (hown.alloc _) (by simp; omega) _ m c news hx hc (vw_new hcs) hm hb fun v' w' h1 h2 => h v' w' h1 (((Kept.refl w v).alloc _).trans h2)

/-- The same at a step of a region that draws its order. -/
theorem step_app {ops : Array Oper} {o : Oper} {a : Act} {w : World} {K : Act → World → Prop} {Q : Exit → Act → World → Prop} {E : Prop} (hgd : o.guard = none) (s x : Operand)
    (ho : o.op = .call { callee := .builtin .append, args := #[s, x], argTypes := #[22, 22] }) (base : Nat) (v : Value) (zs : List Int) (hs : a.eval s = v) (hown : Ob base w v zs) (hbase : base ≤ w.heap.size)
    (ad : Option Addr) (m c : Nat) (news : List Int) (hx : a.eval x = .slice ad m c) (hnone : ad = none → c = 0) (hsrc : Vw .u8 w ad news) (hm : news.length = m) (hb : zs.length + m ≤ 1099511627776)
    (h : ∀ v' w', Ob base w' v' (zs ++ news) → Kept w v w' v' → K (a.put o.dst v') w') :
    if Region.wanted o (yielded ops a.tmps) = true then Oper.wp Try.prog o a w K Q else E := by
  have hw : Region.wanted o (yielded ops a.tmps) = true := by simp [Region.wanted, hgd]
  rw [if_pos hw]
  exact wp_app w s x ho base v zs hs hown hbase ad m c news hx hnone hsrc hm hb h

end Go.Proofs.Qxb6606283a
