/-
  SEAT b6605399a: THE WALK OF 'FnLacksNothingIffPastOnlyAtOrigin'.
-/
import Derived.Test.Qxb6605399aZZLacks
import Derived.Test.Qxb6605399aSame
namespace Go.Proofs.Qxb6605399a.fnLacksNothingIffPastOnlyAtOrigin
open Go.RowKit
set_option linter.unusedVariables false

set_option maxHeartbeats 400000 in
theorem bytes17_any (a b : Option Addr) (n c m d : Nat) (o s : Int) (w : World) (hn : n ≤ maxLen) (hm : m ≤ maxLen) :
    Calls Try.prog 17 #[.slice a n c, .int .i64 o, .int .u64 s, .slice b m d] w fun e w' => ∃ r : Bool, e = .returned (.bool r) ∧ w' = w ∧ (n ≤ 65536 → m ≤ 65536 → r = true) := by
  unfold maxLen at hn hm
  go_enter Try.func17, Try.ntmps17
  go_wp2
  all_goals
    go_ret
    exact ⟨_, rfl, rfl, fun h1 h2 => by first | rfl | omega⟩

set_option maxHeartbeats 400000 in
theorem walk_big (a b : Option Addr) (n c m d : Nat) (o s : Int) (w : World) (h : ¬ (n ≤ 65536 ∧ m ≤ 65536 ∧ o ≤ 65536)) (hn : n ≤ maxLen) (hm : m ≤ maxLen) :
    Calls Try.prog 7 #[.slice a n c, .int .i64 o, .int .u64 s, .slice b m d] w fun e w' => e = .returned (.bool true) ∧ Below w.heap.size w w' := by
  have H := bytes17_any a b n c m d o s w hn hm
  unfold maxLen at hn hm
  by_cases h1 : n ≤ 65536
  · by_cases h2 : m ≤ 65536
    · have h3 : ¬ o ≤ 65536 := fun h3 => h ⟨h1, h2, h3⟩
      clear h
      go_enter Try.func7, Try.ntmps7
      go_wp2_with fail
      refine H.mono ?_
      rintro e w' ⟨r, rfl, rfl, -⟩
      cases r
      all_goals
        go_wp2
        go_ret
        exact ⟨rfl, Below.refl _ _⟩
    · clear h
      go_enter Try.func7, Try.ntmps7
      go_wp2_with fail
      refine H.mono ?_
      rintro e w' ⟨r, rfl, rfl, -⟩
      cases r
      all_goals
        go_wp2
        go_ret
        exact ⟨rfl, Below.refl _ _⟩
  · clear h
    go_enter Try.func7, Try.ntmps7
    go_wp2_with fail
    refine H.mono ?_
    rintro e w' ⟨r, rfl, rfl, -⟩
    cases r
    all_goals
      go_wp2
      go_ret
      exact ⟨rfl, Below.refl _ _⟩

theorem same_none {zs : List Int} {origin seq : Int} (h : ∀ j : Nat, j < max zs.length origin.toNat → ¬ Need zs origin seq j) : sameB zs [] origin = true := by
  refine sameB_true fun p hp => ?_
  by_cases e : (p : Int) + 1 = origin
  · exact Or.inl e
  · refine Or.inr (Classical.byContradiction fun hne => ?_)
    exact h p (by simp at hp; omega) (Or.inr ⟨e, by simpa using hne⟩)

theorem seq_none {zs : List Int} {origin seq : Int} (h : ∀ j : Nat, j < max zs.length origin.toNat → ¬ Need zs origin seq j) (ho : 1 ≤ origin) : seq = 1 := by
  refine Classical.byContradiction fun hne => ?_
  exact h (origin - 1).toNat (by omega) (Or.inl ⟨by omega, hne⟩)

theorem same_some {zs : List Int} {origin seq : Int} {j : Nat} (h : Need zs origin seq j) : sameB zs [] origin = false ∨ (sameB zs [] origin = true ∧ 1 ≤ origin ∧ seq ≠ 1) := by
  rcases h with ⟨h1, h2⟩ | ⟨h1, h2⟩
  · cases hs : sameB zs [] origin
    · exact Or.inl rfl
    · exact Or.inr ⟨rfl, by omega, h2⟩
  · refine Or.inl (sameB_false (p := j) ?_ h1 (by simpa using h2))
    have : j < zs.length := by
      refine Classical.byContradiction fun hl => h2 ?_
      simp [List.getD, show zs.length ≤ j by omega]
    simp; omega

set_option maxHeartbeats 1000000 in
set_option maxRecDepth 20000 in
theorem walk_small (a0 a : Option Addr) (n0 c0 n c : Nat) (origin seq : Int) (ds zs : List Int) (w : World) (hd : Vw .i64 w a0 ds) (hd1 : ds.length = n0) (hd2 : n0 ≤ 65536) (hdw : ∀ x ∈ ds, (Lit.int .i64 x).wf = true)
    (hv : Vw .u64 w a zs) (hn : zs.length = n) (hb : n ≤ 65536) (hor : origin ≤ 65536) (hs1 : 0 ≤ seq) (hs2 : seq < 18446744073709551616) (hz : ∀ j, 0 ≤ zs.getD j 0) :
    Calls Try.prog 7 #[.slice a0 n0 c0, .int .i64 origin, .int .u64 seq, .slice a n c] w fun e w' => e = .returned (.bool true) ∧ Below w.heap.size w w' := by
  have H := bytes17_any a0 a n0 c0 n c origin seq w (by unfold maxLen; omega) (by unfold maxLen; omega)
  have H15 := cloneInt_any a0 n0 c0 ds w hd hd1 (by omega)
  have Hn : Hid (zs.length = n) := hn
  have Hd : Hid (ds.length = n0) := hd1
  clear hn hd1
  go_enter Try.func7, Try.ntmps7
  go_wp2_with fail
  refine H.mono ?_
  rintro e w' ⟨r, rfl, rfl, hr⟩
  obtain rfl := hr hd2 hb
  clear H hr
  go_wp2_with fail
  refine H15.mono ?_
  rintro e w1 ⟨a1, rfl, hown1, hb1⟩
  have hd' := own_vw hown1
  have hv1 := hv.below hb1
  clear H15 hown1 hd hv
  go_wp2_with fail
  refine (clone_any a n c zs w1 hv1 Hn.out (by omega)).mono ?_
  rintro e w2 ⟨a2, rfl, hown2, hb2⟩
  have hd2' := hd'.below hb2
  have hv2 := own_vw hown2
  have hbw : Below w'.heap.size w' w2 := hb1.trans (hb2.mono hb1.size)
  clear hown2 hd' hv1 hb1 hb2
  go_wp2_with fail
  refine (zzlacks_any a1 a2 n0 n0 n n origin seq ds zs w2 hd2' Hd.out hd2 hdw hv2 Hn.out (by omega) (by omega) hs1 hs2 hz).mono ?_
  rintro e w3 ⟨q, m, rfl, hL, hb3⟩
  have hv3 := hv2.below hb3
  have hbw3 : Below w'.heap.size w' w3 := hbw.trans (hb3.mono hbw.size)
  have H12 := zzsame_any a2 none n n 0 0 origin zs [] w3 hv3 (fun i hi => absurd hi (by simp)) Hn.out rfl (by omega) (by omega)
  clear hv2 hv3 hd2' hbw hb3 hz
  rcases hL with ⟨rfl, rfl, hnone⟩ | ⟨j, hj, rfl, rfl, hN, -⟩
  · rw [same_none hnone] at H12
    by_cases ho : 1 ≤ origin
    · obtain rfl := seq_none hnone ho
      clear hnone
      go_wp2_with fail
      refine H12.mono ?_
      rintro e w4 ⟨rfl, rfl⟩
      go_wp2
      go_ret
      exact ⟨rfl, hbw3⟩
    · clear hnone
      go_wp2_with fail
      refine H12.mono ?_
      rintro e w4 ⟨rfl, rfl⟩
      go_wp2
      go_ret
      exact ⟨rfl, hbw3⟩
  · have hq0 : ((j : Int) + 1 == 0) = false := beq_eq_false_iff_ne.2 (by omega)
    have hjn : (j : Int) + 1 ≤ (n : Int) ∨ ((n : Int) < (j : Int) + 1 ∧ (j : Int) + 1 = origin) := by
      have h0 := Hn.out
      rcases hN with ⟨h1, h2⟩ | ⟨h1, h2⟩
      · omega
      · have : j < zs.length := by
          refine Classical.byContradiction fun hl => h2 ?_
          simp [List.getD, show zs.length ≤ j by omega]
        omega
    rcases same_some hN with hs | ⟨hs, ho, hq⟩
    · rw [hs] at H12
      clear hs hN hj
      rcases hjn with hjn | ⟨hjn, hjo⟩
      · go_wp2_with fail
        refine H12.mono ?_
        rintro e w4 ⟨rfl, rfl⟩
        go_wp2
        go_ret
        exact ⟨rfl, hbw3⟩
      · have hjb : ((j : Int) + 1 == origin) = true := beq_iff_eq.2 hjo
        clear hjo
        go_wp2_with fail
        refine H12.mono ?_
        rintro e w4 ⟨rfl, rfl⟩
        go_wp2
        go_ret
        exact ⟨rfl, hbw3⟩
    · rw [hs] at H12
      have hqb : (seq == 1) = false := beq_eq_false_iff_ne.2 hq
      have hob : decide (origin < 1) = false := decide_eq_false (by omega)
      clear hs hN hj hq
      rcases hjn with hjn | ⟨hjn, hjo⟩
      · go_wp2_with fail
        refine H12.mono ?_
        rintro e w4 ⟨rfl, rfl⟩
        go_wp2
        go_ret
        exact ⟨rfl, hbw3⟩
      · have hjb : ((j : Int) + 1 == origin) = true := beq_iff_eq.2 hjo
        clear hjo
        go_wp2_with fail
        refine H12.mono ?_
        rintro e w4 ⟨rfl, rfl⟩
        go_wp2
        go_ret
        exact ⟨rfl, hbw3⟩

end Go.Proofs.Qxb6605399a.fnLacksNothingIffPastOnlyAtOrigin
