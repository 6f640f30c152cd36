/-
  SEAT b6606283a: THE WALKS OF 'ZZsplitWords', 'b1CloneWords' AND OF THE BOUND ON LENGTHS.
-/
import Derived.Test.Qxb6606283aSplit
namespace Go.Proofs.Qxb6606283a
open Go.RowKit
set_option linter.unusedVariables false

set_option maxHeartbeats 400000 in
theorem zzsplit_any (a : Option Addr) (n c : Nat) (line : List Int) (ws : List (List Int)) (w : World) (hv : Vw .u8 w a line) (hn : line.length = n) (hb : n ≤ 16777216) (hs : swf (line.length + 1) (line.length + 1) line = some ws) :
    Calls Try.prog 17 #[.slice a n c] w fun e w' => ∃ v, e = .returned (.tuple #[v, .bool true]) ∧ WOwn w.heap.size w' v ws ∧ Below w.heap.size w w' := by
  have H := hidE (split_any a n c line ws w hv hn hb hs)
  clear hv hn hs
  go_enter Try.func17, Try.ntmps17
  go_wp2_with fail
  refine H.out.mono ?_
  rintro e w' ⟨v, rfl, h1, h2⟩
  go_wp2
  go_ret2
  exact ⟨v, rfl, h1, h2⟩

/-- The words as the law's own copy holds them: each slice as long as its array. -/
def WsC (w : World) (a : Option Addr) (ws : List (List Int)) : Prop :=
  ∀ t, t < ws.length → ∃ b off a', a = some ⟨b, off, none⟩ ∧ w.cell? ⟨b, off + t, none⟩ = some (.slice a' (ws.getD t []).length (ws.getD t []).length) ∧ (a' = none → (ws.getD t []).length = 0) ∧ Vw .u8 w a' (ws.getD t []) ∧ ∀ b' off', a' = some ⟨b', off', none⟩ → b' < w.heap.size

theorem WsC.below {w w' : World} {a : Option Addr} {ws : List (List Int)} (h : WsC w a ws) (hb : Below w.heap.size w w') : WsC w' a ws := by
  intro t ht
  obtain ⟨b, off, a', ha, hc, hn, hv, hl⟩ := h t ht
  exact ⟨b, off, a', ha, (hb.cell (block_lt_of_cell hc)).trans hc, hn, hv.below hb, fun b' off' h' => Nat.lt_of_lt_of_le (hl b' off' h') hb.size⟩

theorem WsC.drewN {w : World} {a : Option Addr} {ws : List (List Int)} (h : WsC w a ws) (n : Nat) : WsC (w.drewN n) a ws := by
  intro t ht
  obtain ⟨b, off, a', ha, hc, hn, hv, hl⟩ := h t ht
  exact ⟨b, off, a', ha, hc, hn, hv.drewN n, hl⟩

/-- What the copying loop knows of the words copied so far. -/
def CW (w : World) (g : Nat) (xs : List Value) (ws : List (List Int)) (k : Nat) : Prop :=
  ∀ t, t < k → ∃ a', xs[t]? = some (.slice a' (ws.getD t []).length (ws.getD t []).length) ∧ (a' = none → (ws.getD t []).length = 0) ∧ VwX w a' (ws.getD t []) (some g) ∧ ∀ b' off', a' = some ⟨b', off', none⟩ → b' < w.heap.size

theorem CW.below {w w' : World} {g : Nat} {xs : List Value} {ws : List (List Int)} {k : Nat} (h : CW w g xs ws k) (hb : Below w.heap.size w w') : CW w' g xs ws k := by
  intro t ht
  obtain ⟨a', h1, h2, h3, h4⟩ := h t ht
  refine ⟨a', h1, h2, fun i hi => ?_, fun b' off' h' => Nat.lt_of_lt_of_le (h4 b' off' h') hb.size⟩
  obtain ⟨b, off, g1, g2, g3⟩ := h3 i hi
  exact ⟨b, off, g1, (hb.cell (block_lt_of_cell g2)).trans g2, g3⟩

theorem vwx_setCell {w : World} {a : Option Addr} {zs : List Int} {g j : Nat} {u : Value} (h : VwX w a zs (some g)) : VwX (w.setCell ⟨g, j, none⟩ u) a zs (some g) := by
  intro i hi
  obtain ⟨b, off, g1, g2, g3⟩ := h i hi
  refine ⟨b, off, g1, ?_, g3⟩
  rw [World.cell?_of_block (w := w) (Below.heap_setCell w ⟨g, j, none⟩ u b (fun e => g3 (by rw [e])))]
  exact g2

theorem CW.store {w : World} {g : Nat} {xs : List Value} {ws : List (List Int)} {k : Nat} (h : CW w g xs ws k) (hk : k < xs.length) {a' : Option Addr} (h1 : a' = none → (ws.getD k []).length = 0) (h2 : VwX w a' (ws.getD k []) (some g)) (h3 : ∀ b' off', a' = some ⟨b', off', none⟩ → b' < w.heap.size) :
    CW (w.setCell ⟨g, k, none⟩ (.slice a' (ws.getD k []).length (ws.getD k []).length)) g (xs.set k (.slice a' (ws.getD k []).length (ws.getD k []).length)) ws (k + 1) := by
  have hsz : (w.setCell ⟨g, k, none⟩ (.slice a' (ws.getD k []).length (ws.getD k []).length)).heap.size = w.heap.size := by simp [World.setCell]
  intro t ht
  by_cases e : t = k
  · subst e
    refine ⟨a', by simp [hk], h1, vwx_setCell h2, fun b' off' h' => by rw [hsz]; exact h3 b' off' h'⟩
  · obtain ⟨a1, g1, g2, g3, g4⟩ := h t (by omega)
    exact ⟨a1, by rw [List.getElem?_set_ne (by omega)]; exact g1, g2, vwx_setCell g3, fun b' off' h' => by rw [hsz]; exact g4 b' off' h'⟩

set_option maxHeartbeats 1000000 in
theorem cloneWords_any (a : Option Addr) (n c : Nat) (ws : List (List Int)) (w : World) (hv : WsV w a ws) (hn : ws.length = n) (hb : n ≤ 1048576) (hbw : ∀ t, t < ws.length → (ws.getD t []).length ≤ 1048576) :
    Calls Try.prog 14 #[.slice a n c] w fun e w' => ∃ a', e = .returned (.slice a' n n) ∧ WsC w' a' ws ∧ Below w.heap.size w w' := by
  obtain ⟨i0, hi, hz0, hz1, hz2⟩ := info_parts Try.info22
  have q31 : ∀ (w : World) (a : Option Addr) (n c n' c' : Nat), (binOp .eql 31 (.slice a n c) (.slice none n' c')).run Try.prog w = .ok (.bool a.isNone) w := fun w a n c n' c' => Lib.run_eql_slice_nil w _ _ a n c n' c' Try.underlying31
  cases a with
  | none =>
    have h0 : n = 0 := by
      rcases Nat.eq_zero_or_pos n with h | h
      · exact h
      · obtain ⟨b, off, a', c', h', _⟩ := hv 0 (by omega); cases h'
    subst h0
    obtain rfl : ws = [] := List.eq_nil_of_length_eq_zero hn
    clear hn hv hbw
    go_enter Try.func14, Try.ntmps14
    go_wp2
    go_ret
    exact ⟨none, rfl, fun t ht => absurd ht (by simp), Below.refl _ _⟩
  | some ad =>
    have Hn : Hid (ws.length = n) := hn
    have HBW : Hid (∀ t, t < ws.length → (ws.getD t []).length ≤ 1048576) := hbw
    clear hn hbw
    go_enter Try.func14, Try.ntmps14
    go_wp2_with (at_make; refine wpList_make_full _ rfl _ _ 31 rfl w.heap.size 22 i0 (.slice none 0 0) 1 Try.underlying31 hi hz0 hz1 .i64 .i64 _ _ n rfl rfl rfl rfl ?c1 ?c2 ?c3 ?_)
    case c1 => rw [hz2]; omega
    case c2 => unfold maxLen; omega
    case c3 => omega
    intro w1 hown hgrow
    have hb1 : Below w.heap.size w w1 := (Below.refl _ w).grown hgrow (Nat.le_refl _) (by intro k h; cases h)
    have hl : w.heap.size < w1.heap.size := (hown.lt _ rfl).2
    go_wp2
    go_loopw [4] (fun i wr => ∃ (k : Nat) (xs : List Value), k ≤ n ∧ i = .int .i64 k ∧ wr.ownsRow w.heap.size 22 1 (.slice (some ⟨w.heap.size, 0, none⟩) n n) n xs ∧ CW wr w.heap.size xs ws k ∧ Below w.heap.size w wr ∧ w.heap.size < wr.heap.size) (fun i _ => n - (intOf i).toNat)
    case atStart => exact ⟨0, _, Nat.zero_le _, rfl, hown, fun j hj => by omega, hb1, hl⟩
    case round =>
      obtain ⟨k, xs, hk, rfl, hown', hf, hb2, hl2⟩ := hrel
      clear hown hgrow hb1 hl
      by_cases hlt : k < n
      · obtain ⟨b, off, a', c', hae, hc, hcn, hvw⟩ := (hv.below hb2) k (by have := Hn.out; omega)
        obtain rfl := Option.some.inj hae
        have hlk : (ws.getD k []).length ≤ 1048576 := HBW.out k (by have := Hn.out; omega)
        have H7 := clone_any a' (ws.getD k []).length c' (ws.getD k []) wr hvw rfl (by omega)
        have HV := hidE hf
        generalize hLL : (ws.getD k []).length = L at hc H7
        have HL := hidE hLL
        clear hvw hf hLL
        go_wp2_with fail
        refine H7.mono ?_
        rintro e w2 ⟨a2, rfl, ho2, hq2⟩
        have hf2 := HV.out.below hq2
        have hown2 : w2.ownsRow w.heap.size 22 1 (.slice (some ⟨w.heap.size, 0, none⟩) n n) n xs := by
          refine ⟨hown'.1, ?_⟩
          rcases hown'.2 with h0 | ⟨g, cap, cur, hv', hg, hh, r⟩
          · exact Or.inl h0
          · exact Or.inr ⟨g, cap, cur, hv', hg, (hq2.block g (Array.getElem?_eq_some_iff.1 hh).1).trans hh, r⟩
        obtain ⟨v0, g1, g2, g3⟩ : ∃ v, w2.cell? ⟨w.heap.size, k, none⟩ = some v ∧ xs[k]? = some v ∧ w2.frozen? ⟨w.heap.size, k, none⟩ = false := by
          have hxl : xs.length = n * 1 := hown2.1
          obtain ⟨v, hv'⟩ : ∃ v, xs[k]? = some v := ⟨xs[k]'(by omega), List.getElem?_eq_getElem _⟩
          exact ⟨v, by rw [hown2.cellAt k (by omega)]; exact hv', hv', hown2.frozenAt k⟩
        have hst := hown2.stored k (.slice a2 L L)
        have hfar := ho2.far
        have hvw2 := ho2.vw
        have hz : a2 = none → L = 0 := by obtain ⟨a9, c9, e9, _, _, hz9, _⟩ := ho2.shape; cases e9; exact hz9
        have hcw : CW (w2.setCell ⟨w.heap.size, k, none⟩ (.slice a2 L L)) w.heap.size (xs.set k (.slice a2 L L)) ws (k + 1) := by
          have := hf2.store (a' := a2) (by have := hown2.1; omega) (by rw [HL.out]; exact hz) (hvw2.vwx (fun b' off' hh e => by have h1 := (hfar b' off' hh).1; cases e; omega)) (fun b' off' hh => (hfar b' off' hh).2)
          rw [HL.out] at this
          exact this
        have hb3 : Below w.heap.size w (w2.setCell ⟨w.heap.size, k, none⟩ (.slice a2 L L)) := (hb2.trans (hq2.mono hb2.size)).setCell (Nat.le_refl _) _
        have hs2 := hq2.size
        have HST := hidE hst
        have HCW := hidE hcw
        have HB3 := hidE hb3
        clear hc hown' hown2 hf2 hst hcw hb3 hfar hvw2 HV ho2 hb2
        go_wp2
        go_roundw
        case rel => exact ⟨k + 1, _, by omega, by go_num, HST.out.1, HCW.out, HB3.out, by simp [World.setCell]; omega⟩
        case measure => simp [intOf]; omega
      · obtain rfl : k = n := by omega
        go_wp2
        go_ret
        refine ⟨_, rfl, ?_, hb2⟩
        intro t ht
        obtain ⟨a', h1, h2, h3, h4⟩ := hf t (by have := Hn.out; omega)
        refine ⟨w.heap.size, 0, a', rfl, ?_, h2, h3.vw, h4⟩
        rw [hown'.cellAt (0 + t) (by have := Hn.out; omega)]
        simpa using h1

/-- Some bool comes back, and nothing has turned. -/
def BoolPost (w : World) (e : Ending) (w' : World) : Prop := ∃ r : Bool, e = .returned (.bool r) ∧ w' = w

set_option maxHeartbeats 1000000 in
theorem bytes13_any (a am : Option Addr) (n c m cm : Nat) (ws : List (List Int)) (w : World) (hv : WsV w a ws) (hn : ws.length = n) (hb : n ≤ maxLen) (hm : m ≤ maxLen) :
    Calls Try.prog 13 #[.slice a n c, .slice am m cm] w fun e w' => BoolPost w e w' := by
  have Hn : Hid (ws.length = n) := hn
  clear hn
  unfold maxLen at hb hm
  by_cases hn1 : n ≤ 1048576
  · go_enter Try.func13, Try.ntmps13
    go_wp2
    go_loop [5, 6] (fun z i => ∃ (k : Nat) (q : Nat), k ≤ n ∧ q ≤ 1048576 ∧ i = .int .i64 k ∧ z = .int .i64 q) (fun _ i => n - (intOf i).toNat)
    case atStart => exact ⟨0, n, Nat.zero_le _, hn1, rfl, by go_num⟩
    case round =>
      obtain ⟨k, q, hk, hq, rfl, rfl⟩ := hrel
      by_cases hlt : k < n
      · obtain ⟨b, off, a', c', hae, hc, hcn, hvw⟩ := hv k (by have := Hn.out; omega)
        subst hae
        generalize (ws.getD k []).length = L at hc
        by_cases hL : L ≤ 1048576
        · by_cases hq2 : q + L ≤ 1048576
          · go_wp2
            go_round
            case rel => exact ⟨k + 1, q + L, by omega, hq2, by go_num, by go_num⟩
            case measure => simp [intOf]; omega
          · go_wp2
            go_ret
            exact ⟨_, rfl, rfl⟩
        · go_wp2
          go_ret
          exact ⟨_, rfl, rfl⟩
      · by_cases hm1 : m ≤ 1048576
        · by_cases hm2 : q + m ≤ 1048576
          · go_wp2
            go_ret
            exact ⟨_, rfl, rfl⟩
          · go_wp2
            go_ret
            exact ⟨_, rfl, rfl⟩
        · go_wp2
          go_ret
          exact ⟨_, rfl, rfl⟩
  · go_enter Try.func13, Try.ntmps13
    go_wp2
    go_ret
    exact ⟨_, rfl, rfl⟩

end Go.Proofs.Qxb6606283a
