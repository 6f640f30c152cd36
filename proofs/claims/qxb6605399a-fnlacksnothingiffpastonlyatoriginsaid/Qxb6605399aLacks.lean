/-
  SEAT b6605399a: THE WALKS OF 'Floor', 'floor', 'lacks', 'ZZLacks', 'zzCloneInt': A MAP OF POINTERS TO ZERO SETS THAT THE CALL ITSELF MAKES.
-/
import Derived.Test.Qxb6605399aBase
import Derived.WalkSmall
import Derived.Maps.OwnOps
namespace Go.Proofs.Qxb6605399a
open Go.RowKit
open Go.WideElems (Fit)
set_option linter.unusedVariables false

/-- How an element of the map reads: nil, or a pointer to a Set whose floor is 0. -/
def ptrR (w : World) (v : Value) : Option (DataW Unit × List MemPlace) :=
  match v with
  | .pointer none => some (.lit (.bool true), [])
  | .pointer (some ⟨g, 0, none⟩) =>
    match w.cell? ⟨g, 0, none⟩ with
    | some (.int .u64 z) => if z = 0 then some (.lit (.bool true), []) else none
    | _ => none
  | _ => none

/-- The same, said. -/
def Good (w : World) (v : Value) : Prop := v = .pointer none ∨ ∃ g, v = .pointer (some ⟨g, 0, none⟩) ∧ w.cell? ⟨g, 0, none⟩ = some (.int .u64 0)

theorem ptrR_good {w : World} {v : Value} {z : DataW Unit × List MemPlace} (h : ptrR w v = some z) : Good w v ∧ z = (.lit (.bool true), []) := by
  unfold ptrR at h
  split at h
  · cases h; exact ⟨Or.inl rfl, rfl⟩
  · rename_i g
    split at h
    · rename_i z' hc
      split at h
      · rename_i h0
        subst h0
        cases h
        exact ⟨Or.inr ⟨g, rfl, hc⟩, rfl⟩
      · cases h
    · cases h
  · cases h

theorem good_ptrR {w : World} {v : Value} (h : Good w v) : ptrR w v = some (.lit (.bool true), []) := by
  rcases h with rfl | ⟨g, rfl, hc⟩
  · rfl
  · simp [ptrR, hc]

/-- Block b is a map of at most n entries, each a good pointer. -/
def MapOk (w : World) (b n : Nat) : Prop := ∃ D, w.ownsMap Try.prog 36 (ptrR w) b n D

theorem ownsMap_turn {w w' : World} {b n : Nat} {D : DataW Unit} (h : w'.ownsMap Try.prog 36 (ptrR w) b n D) (hg : ∀ v, Good w v → Good w' v) : MapOk w' b n := by
  obtain ⟨es, clock, hb, F, hs, hD⟩ := h
  obtain ⟨F1, hmap, _⟩ := F.stay (R' := ptrR w') (fun x _ z hz => by
    obtain ⟨h1, rfl⟩ := ptrR_good hz
    exact good_ptrR (hg _ h1))
  exact ⟨_, es, clock, hb, F1, hs, rfl⟩

theorem MapOk.lt {w : World} {b n : Nat} (h : MapOk w b n) : b < w.heap.size := by
  obtain ⟨D, h⟩ := h
  exact h.lt

theorem MapOk.below {w w' : World} {b n : Nat} (h : MapOk w b n) (hb : Below w.heap.size w w') : MapOk w' b n := by
  have hlt := h.lt
  obtain ⟨D, es, clock, hm, F, hs, hD⟩ := h
  refine ownsMap_turn (w := w) (D := D) ⟨es, clock, (hb.block b hlt).trans hm, F, hs, hD⟩ ?_
  intro v hv
  rcases hv with rfl | ⟨g, rfl, hc⟩
  · exact Or.inl rfl
  · exact Or.inr ⟨g, rfl, (hb.cell (block_lt_of_cell hc)).trans hc⟩

theorem Try.zero40 (w : World) : (zeroValue 40).run Try.prog w = .ok (.pointer none) w := by kernel_rfl

theorem MapOk.look {w : World} {b n : Nat} (h : MapOk w b n) (q : Int) (hq : (Lit.int .i64 q).wf = true) : ∃ v, (Instr.lookup 39 (.map (some b)) (.int .i64 q) false).run Try.prog w = .ok v w ∧ Good w v := by
  obtain ⟨D, h⟩ := h
  obtain ⟨v, ps, hrun, hv⟩ := h.lookup (Maps.int_keyed Try.underlying36) Try.underlying39 (Try.zero40 w) (zd := .lit (.bool true)) (zp := []) rfl (Maps.keyOf_int_mk Try.underlying36 hq)
  exact ⟨v, hrun, (ptrR_good hv).1⟩

/-- Behind a store into the map. -/
theorem MapOk.stored {w w' : World} {b n : Nat} {D : DataW Unit} (h0 : MapOk w b n) (h : w'.ownsMap Try.prog 36 (ptrR w) b (n + 1) D) (hg : w.grownBy w' (some b)) : MapOk w' b (n + 1) := by
  refine ownsMap_turn (w := w) h ?_
  intro v hv
  rcases hv with rfl | ⟨g, rfl, hc⟩
  · exact Or.inl rfl
  · refine Or.inr ⟨g, rfl, hg.cell hc ?_⟩
    intro e
    obtain rfl : g = b := by simpa using e
    obtain ⟨D0, es, clock, hm, _⟩ := h0
    simp [World.cell?, hm] at hc

theorem mapOk_made (w : World) : MapOk (w.alloc (.map #[] 0)) w.heap.size 0 := ⟨_, World.ownsMap_made w Try.prog 36 (ptrR (w.alloc (.map #[] 0)))⟩

set_option maxHeartbeats 400000 in
theorem Floor_any (g : Nat) (w : World) (hc : w.cell? ⟨g, 0, none⟩ = some (.int .u64 0)) :
    Calls Try.prog 22 #[.pointer (some ⟨g, 0, none⟩)] w fun e w' => e = .returned (.int .u64 0) ∧ w' = w := by
  go_enter Try.func22, Try.ntmps22
  go_wp2
  go_ret
  exact ⟨rfl, rfl⟩

set_option maxHeartbeats 400000 in
theorem floor_any (b n : Nat) (q : Int) (hq : (Lit.int .i64 q).wf = true) (w : World) (h : MapOk w b n) :
    Calls Try.prog 21 #[.map (some b), .int .i64 q] w fun e w' => e = .returned (.int .u64 0) ∧ w' = w := by
  obtain ⟨v, hrun, hv⟩ := h.look q hq
  clear h
  rcases hv with rfl | ⟨g, rfl, hc⟩
  · go_enter Try.func21, Try.ntmps21
    go_wp2
    go_ret
    exact ⟨rfl, rfl⟩
  · have H := Floor_any g w hc
    go_enter Try.func21, Try.ntmps21
    go_wp2_with fail
    refine H.mono ?_
    rintro e w' ⟨rfl, rfl⟩
    go_wp2
    go_ret
    exact ⟨rfl, rfl⟩

/-- Does the message need one of origin j + 1? -/
def Need (zs : List Int) (origin seq : Int) (j : Nat) : Prop := ((j : Int) + 1 = origin ∧ seq ≠ 1) ∨ (¬ (j : Int) + 1 = origin ∧ zs.getD j 0 ≠ 0)

/-- What 'lacks' answers of a process that has delivered nothing. -/
def LackSpec (zs : List Int) (origin seq : Int) (q n : Int) : Prop :=
  (q = 0 ∧ n = 0 ∧ ∀ j : Nat, j < max zs.length origin.toNat → ¬ Need zs origin seq j) ∨
  ∃ j : Nat, j < max zs.length origin.toNat ∧ q = (j : Int) + 1 ∧ n = 1 ∧ Need zs origin seq j ∧ ∀ t, t < j → ¬ Need zs origin seq t

set_option maxHeartbeats 1000000 in
set_option maxRecDepth 20000 in
theorem lacks_any (a : Option Addr) (n c g b m : Nat) (origin seq : Int) (zs : List Int) (w : World) (hv : Vw .u64 w a zs) (hn : zs.length = n) (hb : n ≤ 1048576) (hor : origin ≤ 1048576)
    (hs1 : 0 ≤ seq) (hs2 : seq < 18446744073709551616) (hz : ∀ j, 0 ≤ zs.getD j 0) (hc : w.cell? ⟨g, 2, none⟩ = some (.map (some b))) (hm : MapOk w b m) :
    Calls Try.prog 20 #[.pointer (some ⟨g, 0, none⟩), .agg #[.int .i64 origin, .int .u64 seq], .slice a n c] w fun e w' => ∃ q k, e = .returned (.tuple #[.int .i64 q, .int .u64 k]) ∧ LackSpec zs origin seq q k ∧ Below w.heap.size w w' := by
  have Hn : Hid (zs.length = n) := hn
  have hgl := block_lt_of_cell hc
  have hbw : Below w.heap.size w (w.alloc (.cells #[.int .i64 origin, .int .u64 seq] 51)) := (Below.refl _ _).alloc (Nat.le_refl _) _
  have hv' := hv.below hbw
  have hm' := hm.below hbw
  clear hn hv hm
  go_enter Try.func20, Try.ntmps20
  go_wp2
  obtain ⟨M, hM⟩ : ∃ M : Nat, M = max n origin.toNat := ⟨_, rfl⟩
  have hM1 : M ≤ 1048576 := by omega
  have HM : Hid (M = max n origin.toNat) := hM
  clear hM
  go_loop [8] (fun i => ∃ (j : Nat), j ≤ M ∧ i = .int .i64 ((j : Int) + 1) ∧ ∀ t, t < j → ¬ Need zs origin seq t) (fun i => M + 1 - (intOf i).toNat)
  case atStart => exact ⟨0, Nat.zero_le _, rfl, fun t ht => by omega⟩
  case round =>
    obtain ⟨j, hj, rfl, hall⟩ := hrel
    have HA : Hid (∀ t, t < j → ¬ Need zs origin seq t) := hall
    clear hall
    have hzj := hz j
    by_cases hlt : j < M
    · have hwf : (Lit.int .i64 ((j : Int) + 1)).wf = true := WalkArith.wf_i64 (by omega)
      have H1 := at_any a n c ((j : Int) + 1) j rfl zs _ hv' Hn.out (by omega) (by omega)
      have H2 := floor_any b m ((j : Int) + 1) hwf _ hm'
      by_cases hq : (j : Int) + 1 = origin
      · have hqb : ((j : Int) + 1 == origin) = true := beq_iff_eq.2 hq
        have hq1 : (j : Int) + 1 ≤ origin := by omega
        by_cases hs : seq = 1
        · have HN : Hid (¬ Need zs origin seq j) := by unfold Need; rintro (⟨_, h⟩ | ⟨h, _⟩); exact h hs; exact h hq
          clear hq
          subst hs
          generalize zs.getD j 0 = z at H1 hzj
          clear hz hs1 hs2 hwf hv' hm'
          go_wp2_with fail
          all_goals
            refine H1.mono ?_
            rintro e w' ⟨rfl, hw'⟩
            subst hw'
            go_wp2_with fail
            refine H2.mono ?_
            rintro e w' ⟨rfl, hw'⟩
            subst hw'
            go_wp2
            go_round
            case rel => exact ⟨j + 1, by omega, by go_num, fun t ht => by
              rcases Nat.lt_or_ge t j with h | h
              · exact HA.out t h
              · obtain rfl : t = j := by omega
                exact HN.out⟩
            case measure => simp [intOf]; omega
        · have HN : Hid (Need zs origin seq j) := Or.inl ⟨hq, hs⟩
          clear hq
          generalize zs.getD j 0 = z at H1 hzj
          clear hz hwf hv' hm'
          by_cases h0 : seq = 0
          · subst h0
            go_wp2_with fail
            all_goals
              refine H1.mono ?_
              rintro e w' ⟨rfl, hw'⟩
              subst hw'
              go_wp2_with fail
              refine H2.mono ?_
              rintro e w' ⟨rfl, hw'⟩
              subst hw'
              go_wp2
              go_ret2
              exact ⟨(j : Int) + 1, 1, rfl, Or.inr ⟨j, by rw [Hn.out, ← HM.out]; exact hlt, rfl, rfl, HN.out, HA.out⟩, hbw⟩
          · have h2 : 2 ≤ seq := by omega
            clear h0 hs
            go_wp2_with fail
            all_goals
              refine H1.mono ?_
              rintro e w' ⟨rfl, hw'⟩
              subst hw'
              go_wp2_with fail
              refine H2.mono ?_
              rintro e w' ⟨rfl, hw'⟩
              subst hw'
              go_wp2
              go_ret2
              exact ⟨(j : Int) + 1, 1, rfl, Or.inr ⟨j, by rw [Hn.out, ← HM.out]; exact hlt, rfl, rfl, HN.out, HA.out⟩, hbw⟩
      · have hqb : ((j : Int) + 1 == origin) = false := beq_eq_false_iff_ne.2 hq
        have hq1 : (j : Int) + 1 ≤ (n : Int) ∨ (j : Int) + 1 ≤ origin := by have := HM.out; omega
        by_cases h0 : zs.getD j 0 = 0
        · have HN : Hid (¬ Need zs origin seq j) := by unfold Need; rintro (⟨h, _⟩ | ⟨_, h⟩); exact hq h; exact h h0
          clear hq
          rw [h0] at H1
          clear h0 hz hwf hv' hm' hzj
          rcases hq1 with hq1 | hq1
          · go_wp2_with fail
            all_goals
              refine H1.mono ?_
              rintro e w' ⟨rfl, hw'⟩
              subst hw'
              go_wp2_with fail
              refine H2.mono ?_
              rintro e w' ⟨rfl, hw'⟩
              subst hw'
              go_wp2
              go_round
              case rel => exact ⟨j + 1, by omega, by go_num, fun t ht => by
                rcases Nat.lt_or_ge t j with h | h
                · exact HA.out t h
                · obtain rfl : t = j := by omega
                  exact HN.out⟩
              case measure => simp [intOf]; omega
          · go_wp2_with fail
            all_goals
              refine H1.mono ?_
              rintro e w' ⟨rfl, hw'⟩
              subst hw'
              go_wp2_with fail
              refine H2.mono ?_
              rintro e w' ⟨rfl, hw'⟩
              subst hw'
              go_wp2
              go_round
              case rel => exact ⟨j + 1, by omega, by go_num, fun t ht => by
                rcases Nat.lt_or_ge t j with h | h
                · exact HA.out t h
                · obtain rfl : t = j := by omega
                  exact HN.out⟩
              case measure => simp [intOf]; omega
        · have HN : Hid (Need zs origin seq j) := Or.inr ⟨hq, h0⟩
          have hpos : 0 < zs.getD j 0 := by omega
          clear hq h0 hzj
          generalize zs.getD j 0 = z at H1 hpos
          clear hz hwf hv' hm'
          rcases hq1 with hq1 | hq1
          · go_wp2_with fail
            all_goals
              refine H1.mono ?_
              rintro e w' ⟨rfl, hw'⟩
              subst hw'
              go_wp2_with fail
              refine H2.mono ?_
              rintro e w' ⟨rfl, hw'⟩
              subst hw'
              go_wp2
              go_ret2
              exact ⟨(j : Int) + 1, 1, rfl, Or.inr ⟨j, by rw [Hn.out, ← HM.out]; exact hlt, rfl, rfl, HN.out, HA.out⟩, hbw⟩
          · go_wp2_with fail
            all_goals
              refine H1.mono ?_
              rintro e w' ⟨rfl, hw'⟩
              subst hw'
              go_wp2_with fail
              refine H2.mono ?_
              rintro e w' ⟨rfl, hw'⟩
              subst hw'
              go_wp2
              go_ret2
              exact ⟨(j : Int) + 1, 1, rfl, Or.inr ⟨j, by rw [Hn.out, ← HM.out]; exact hlt, rfl, rfl, HN.out, HA.out⟩, hbw⟩
    · have hq1 : (n : Int) < (j : Int) + 1 := by have := HM.out; omega
      have hq2 : origin < (j : Int) + 1 := by have := HM.out; omega
      have HL : Hid (LackSpec zs origin seq 0 0) := Or.inl ⟨rfl, rfl, fun t ht => HA.out t (by rw [Hn.out, ← HM.out] at ht; omega)⟩
      go_wp2_with fail
      all_goals
        go_ret2
        exact ⟨0, 0, rfl, HL.out, hbw⟩

end Go.Proofs.Qxb6605399a
