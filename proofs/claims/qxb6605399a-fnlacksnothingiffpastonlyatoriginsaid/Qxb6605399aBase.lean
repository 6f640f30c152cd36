/-
  SEAT b6605399a: THE SHARED WALKS: 'at', 'ZZVectorAt', 'zzCloneU64'.
-/
import Derived.Test.Qxb6605399aRows
import Derived.WalkKit
import Derived.WalkSpells
import Derived.WalkLawsBesides
namespace Go.Proofs.Qxb6605399a
open Go.RowKit
set_option linter.unusedVariables false

/-- A slice value at 'a' whose elements are the numbers 'zs', as they can be read in 'w'. -/
def Vw (k : IntKind) (w : World) (a : Option Addr) (zs : List Int) : Prop :=
  ∀ i, i < zs.length → ∃ b off, a = some ⟨b, off, none⟩ ∧ w.cell? ⟨b, off + i, none⟩ = some (.int k (zs.getD i 0))

set_option maxHeartbeats 400000 in
theorem at_any (a : Option Addr) (n c : Nat) (Q : Int) (q : Nat) (hQ : Q = (q : Int) + 1) (zs : List Int) (w : World) (hv : Vw .u64 w a zs) (hn : zs.length = n) (hb : n ≤ 1048576) (hq : q ≤ 2097152) :
    Calls Try.prog 18 #[.slice a n c, .int .i64 Q] w fun e w' => e = .returned (.int .u64 (zs.getD q 0)) ∧ w' = w := by
  subst hQ
  by_cases h : q < n
  · obtain ⟨b, off, rfl, hc⟩ := hv q (by omega)
    clear hv
    generalize zs.getD q 0 = z at hc ⊢
    clear hn
    go_enter Try.func18, Try.ntmps18
    go_wp2
    go_ret
    exact ⟨rfl, rfl⟩
  · have e : zs.getD q 0 = 0 := by simp [List.getD, show zs.length ≤ q by omega]
    rw [e]
    clear hv hn e
    go_enter Try.func18, Try.ntmps18
    go_wp2
    go_ret
    exact ⟨rfl, rfl⟩

set_option maxHeartbeats 400000 in
theorem zzat_any (a : Option Addr) (n c : Nat) (Q : Int) (q : Nat) (hQ : Q = (q : Int) + 1) (zs : List Int) (w : World) (hv : Vw .u64 w a zs) (hn : zs.length = n) (hb : n ≤ 1048576) (hq : q ≤ 2097152) :
    Calls Try.prog 10 #[.slice a n c, .int .i64 Q] w fun e w' => e = .returned (.int .u64 (zs.getD q 0)) ∧ w' = w := by
  have H := at_any a n c Q q hQ zs w hv hn hb hq
  clear hQ
  generalize zs.getD q 0 = z at H ⊢
  clear hv hn
  go_enter Try.func10, Try.ntmps10
  go_wp2_with fail
  refine H.mono ?_
  rintro e w' ⟨rfl, rfl⟩
  go_wp2
  go_ret
  exact ⟨rfl, rfl⟩

theorem Try.info25 : (Try.prog.info? 25).map (fun i => (i.zero, i.size, i.bytes)) = some (some (.int .u64 0), 1, 8) := by kernel_rfl
theorem Try.info3 : (Try.prog.info? 3).map (fun i => (i.zero, i.size, i.bytes)) = some (some (.int .i64 0), 1, 8) := by kernel_rfl

theorem list_ext_map {k : IntKind} {xs : List Value} {zs : List Int} (hl : xs.length = zs.length) (h : ∀ j, j < zs.length → xs[j]? = some (.int k (zs.getD j 0))) : xs = zs.map (.int k) := by
  apply List.ext_getElem?
  intro j
  by_cases hj : j < zs.length
  · rw [h j hj]; simp [List.getD, hj]
  · rw [List.getElem?_eq_none (by omega), List.getElem?_eq_none (by simp; omega)]

theorem Vw.lt {k : IntKind} {w : World} {a : Option Addr} {zs : List Int} (h : Vw k w a zs) (i : Nat) (hi : i < zs.length) : ∃ b off, a = some ⟨b, off, none⟩ ∧ w.cell? ⟨b, off + i, none⟩ = some (.int k (zs.getD i 0)) ∧ b < w.heap.size := by
  obtain ⟨b, off, ha, hc⟩ := h i hi
  exact ⟨b, off, ha, hc, block_lt_of_cell hc⟩

/-- The round of a loop that copies 'zs' into a row of the call's own: after k rounds the first k cells are those of zs. -/
def Filled (k : IntKind) (zs : List Int) (m : Nat) (xs : List Value) : Prop := ∀ j, j < m → xs[j]? = some (.int k (zs.getD j 0))

theorem Filled.step {k : IntKind} {zs : List Int} {m : Nat} {xs : List Value} (h : Filled k zs m xs) (hm : m < xs.length) : Filled k zs (m + 1) (xs.set m (.int k (zs.getD m 0))) := by
  intro j hj
  by_cases e : j = m
  · subst e; simp [hm]
  · rw [List.getElem?_set_ne (by omega)]; exact h j (by omega)

theorem Filled.all {k : IntKind} {zs : List Int} {m : Nat} {xs : List Value} (h : Filled k zs m xs) (hx : xs.length = m) (hz : zs.length = m) : xs = zs.map (.int k) :=
  list_ext_map (by omega) (fun j hj => h j (by omega))

/-- What the walk wants to know of a row of the call's own at a place: there is a cell, and it may be written. -/
theorem own_at {w : World} {base e g n cap : Nat} {xs : List Value} (h : w.ownsRow base e 1 (.slice (some ⟨g, 0, none⟩) n cap) n xs) (j : Nat) (hj : j < n) : ∃ v, w.cell? ⟨g, j, none⟩ = some v ∧ xs[j]? = some v ∧ w.frozen? ⟨g, j, none⟩ = false := by
  have hl : xs.length = n * 1 := h.1
  obtain ⟨v, hv⟩ : ∃ v, xs[j]? = some v := ⟨xs[j]'(by omega), List.getElem?_eq_getElem _⟩
  exact ⟨v, by rw [h.cellAt j (by omega)]; exact hv, hv, h.frozenAt j⟩

set_option maxHeartbeats 400000 in
theorem clone_any (a : Option Addr) (n c : Nat) (zs : List Int) (w : World) (hv : Vw .u64 w a zs) (hn : zs.length = n) (hb : n ≤ 1048576) :
    Calls Try.prog 9 #[.slice a n c] w fun e w' => ∃ a', e = .returned (.slice a' n n) ∧ w'.ownsRow w.heap.size 25 1 (.slice a' n n) n (zs.map (.int .u64)) ∧ Below w.heap.size w w' := by
  obtain ⟨i0, hi, hz0, hz1, hz2⟩ := info_parts Try.info25
  have q22 : ∀ (w : World) (a : Option Addr) (n c n' c' : Nat), (binOp .eql 22 (.slice a n c) (.slice none n' c')).run Try.prog w = .ok (.bool a.isNone) w := fun w a n c n' c' => Lib.run_eql_slice_nil w _ _ a n c n' c' Try.underlying22
  cases a with
  | none =>
    have h0 : n = 0 := by
      rcases Nat.eq_zero_or_pos n with h | h
      · exact h
      · obtain ⟨b, off, h', _⟩ := hv 0 (by omega); cases h'
    subst h0
    obtain rfl : zs = [] := List.eq_nil_of_length_eq_zero hn
    clear hn hv
    go_enter Try.func9, Try.ntmps9
    go_wp2
    go_ret
    exact ⟨none, rfl, World.ownsRow_nil _ _ _ _, Below.refl _ _⟩
  | some ad =>
    have Hn : Hid (zs.length = n) := hn
    clear hn
    go_enter Try.func9, Try.ntmps9
    go_wp2_with (at_make; refine wpList_make_full _ rfl _ _ 22 rfl w.heap.size 25 i0 (.int .u64 0) 1 Try.underlying22 hi hz0 hz1 .i64 .i64 _ _ n rfl rfl rfl rfl ?c1 ?c2 ?c3 ?_)
    case c1 => rw [hz2]; omega
    case c2 => unfold maxLen; omega
    case c3 => omega
    intro w1 hown hgrow
    have hb1 : Below w.heap.size w w1 := (Below.refl _ w).grown hgrow (Nat.le_refl _) (by intro k h; cases h)
    have hl : w.heap.size < w1.heap.size := (hown.lt _ rfl).2
    go_wp2
    go_loopw [4] (fun i wr => ∃ (k : Nat) (xs : List Value), k ≤ n ∧ i = .int .i64 k ∧ wr.ownsRow w.heap.size 25 1 (.slice (some ⟨w.heap.size, 0, none⟩) n n) n xs ∧ Filled .u64 zs k xs ∧ Below w.heap.size w wr ∧ w.heap.size < wr.heap.size) (fun i _ => n - (intOf i).toNat)
    case atStart => exact ⟨0, _, Nat.zero_le _, rfl, hown, fun j hj => by omega, hb1, hl⟩
    case round =>
      obtain ⟨k, xs, hk, rfl, hown', hf, hb2, hl2⟩ := hrel
      clear hown hgrow hb1 hl
      by_cases hlt : k < n
      · obtain ⟨b, off, hae, hc, hbl⟩ := hv.lt k (by have := Hn.out; omega)
        obtain rfl := Option.some.inj hae
        obtain ⟨v0, g1, g2, g3⟩ := own_at hown' k hlt
        have hc' : wr.cell? ⟨b, off + k, none⟩ = some (.int .u64 (zs.getD k 0)) := (hb2.cell hbl).trans hc
        have hst := hown'.stored k (.int .u64 (zs.getD k 0))
        have hfs := hf.step (by have := hown'.1; omega)
        have hb3 : Below w.heap.size w (wr.setCell ⟨w.heap.size, k, none⟩ (.int .u64 (zs.getD k 0))) := hb2.setCell (Nat.le_refl _) _
        generalize zs.getD k 0 = z at hc' hst hfs hb3
        clear hc hown' hf hb2
        go_wp2
        go_roundw
        case rel => exact ⟨k + 1, _, by omega, by go_num, hst.1, hfs, hb3, by simpa using hl2⟩
        case measure => simp [intOf]; omega
      · obtain rfl : k = n := by omega
        go_wp2
        go_ret
        exact ⟨_, rfl, by rw [← hf.all (by have := hown'.1; omega) Hn.out]; exact hown', hb2⟩

theorem own_vw {w : World} {k : IntKind} {base e n c : Nat} {a : Option Addr} {zs : List Int} (h : w.ownsRow base e 1 (.slice a n c) n (zs.map (.int k))) : Vw k w a zs := by
  intro i hi
  have hl := h.1
  simp at hl
  rcases h.2 with ⟨h', h0⟩ | ⟨g, cap, cur, hg, _⟩
  · omega
  · simp only [Value.slice.injEq] at hg
    obtain ⟨rfl, _, rfl⟩ := hg
    refine ⟨g, 0, rfl, ?_⟩
    have := h.cellAt (0 + i) (by omega)
    rw [this]
    simp [List.getD, hi]

theorem Vw.below {k : IntKind} {w w' : World} {a : Option Addr} {zs : List Int} (h : Vw k w a zs) (hb : Below w.heap.size w w') : Vw k w' a zs := by
  intro i hi
  obtain ⟨b, off, ha, hc, hl⟩ := h.lt i hi
  exact ⟨b, off, ha, (hb.cell hl).trans hc⟩

theorem Vw.drewN {k : IntKind} {w : World} {a : Option Addr} {zs : List Int} (h : Vw k w a zs) (n : Nat) : Vw k (w.drewN n) a zs := by
  intro i hi
  obtain ⟨b, off, ha, hc⟩ := h i hi
  exact ⟨b, off, ha, hc⟩

/-- From the shell's 'IsRow' to 'Vw' (the first 'len' numbers). -/
theorem vw_of_row {k : IntKind} {w : World} {x : Addr} {len : Nat} {zs : List Int} (hl : len ≤ zs.length) (hc : ∀ i, i < zs.length → w.cell? (x.add i) = some (.int k (zs.getD i 0))) : Vw k w (some x) (zs.take len) := by
  intro i hi
  have hi' : i < len := by simp at hi; omega
  have h := hc i (by omega)
  obtain ⟨b, off, spot⟩ := x
  have hspot : spot = none := by simpa [Addr.add] using World.cell?_spot (hc 0 (by omega))
  subst hspot
  refine ⟨b, off, rfl, ?_⟩
  rw [Addr.add_lit] at h
  rw [h]
  simp [List.getD, hi']

set_option maxHeartbeats 400000 in
theorem bytes8_any (a : Option Addr) (n c : Nat) (w : World) (hb : n ≤ maxLen) :
    Calls Try.prog 8 #[.slice a n c] w fun e w' => e = .returned (.bool (decide (n ≤ 1048576))) ∧ w' = w := by
  unfold maxLen at hb
  by_cases h : n ≤ 1048576
  · rw [decide_eq_true h]
    go_enter Try.func8, Try.ntmps8
    go_wp2
    go_ret
    exact ⟨rfl, rfl⟩
  · rw [decide_eq_false h]
    go_enter Try.func8, Try.ntmps8
    go_wp2
    go_ret
    exact ⟨rfl, rfl⟩

end Go.Proofs.Qxb6605399a
