/-
  SEAT b6606283a: THE WALK OF 'FnAppendQuotedKeepsWordAndShrinksTheSpan'.
-/
import Derived.Test.Qxb6606283aQuoted
namespace Go.Proofs.Qxb6606283a.fnAppendQuotedKeepsWordAndShrinksTheSpan
open Go.RowKit
set_option linter.unusedVariables false

set_option maxHeartbeats 400000 in
theorem bytes12_any (a b : Option Addr) (n c m d : Nat) (q : Int) (w : World) (hn : n ≤ maxLen) (hm : m ≤ maxLen) :
    Calls Try.prog 12 #[.slice a n c, .slice b m d, .int .i64 q] w fun e w' => ∃ r : Bool, e = .returned (.bool r) ∧ w' = w ∧ (n + m ≤ 1048576 → r = true) := by
  unfold maxLen at hn hm
  go_enter Try.func12, Try.ntmps12
  go_wp2
  all_goals
    go_ret
    exact ⟨_, rfl, rfl, fun h1 => by first | rfl | omega⟩

set_option maxHeartbeats 1000000 in
theorem walk_out (a b : Option Addr) (n c m d : Nat) (i : Int) (w : World) (h : ¬ (n + m ≤ 1048576 ∧ 0 ≤ i ∧ i < (m : Int))) (hn : n ≤ maxLen) (hm : m ≤ maxLen) :
    Calls Try.prog 4 #[.slice a n c, .slice b m d, .int .i64 i] w fun e w' => e = .returned (.bool true) ∧ Below w.heap.size w w' := by
  have H := bytes12_any a b n c m d i w hn hm
  unfold maxLen at hn hm
  by_cases h0 : n + m ≤ 1048576
  · by_cases h1 : 0 ≤ i
    · have h2 : ¬ i < (m : Int) := fun h2 => h ⟨h0, h1, h2⟩
      clear h
      go_enter Try.func4, Try.ntmps4
      go_wp2_with fail
      refine H.mono ?_
      rintro e w' ⟨r, rfl, rfl, -⟩
      cases r
      all_goals
        go_wp2
        go_ret
        exact ⟨rfl, Below.refl _ _⟩
    · clear h
      go_enter Try.func4, Try.ntmps4
      go_wp2_with fail
      refine H.mono ?_
      rintro e w' ⟨r, rfl, rfl, -⟩
      cases r
      all_goals
        go_wp2
        go_ret
        exact ⟨rfl, Below.refl _ _⟩
  · clear h
    by_cases h1 : n ≤ 1048576
    · by_cases h2 : m ≤ 1048576
      · go_enter Try.func4, Try.ntmps4
        go_wp2_with fail
        refine H.mono ?_
        rintro e w' ⟨r, rfl, rfl, -⟩
        cases r
        all_goals
          go_wp2
          go_ret
          exact ⟨rfl, Below.refl _ _⟩
      · go_enter Try.func4, Try.ntmps4
        go_wp2_with fail
        refine H.mono ?_
        rintro e w' ⟨r, rfl, rfl, -⟩
        cases r
        all_goals
          go_wp2
          go_ret
          exact ⟨rfl, Below.refl _ _⟩
    · go_enter Try.func4, Try.ntmps4
      go_wp2_with fail
      refine H.mono ?_
      rintro e w' ⟨r, rfl, rfl, -⟩
      cases r
      all_goals
        go_wp2
        go_ret
        exact ⟨rfl, Below.refl _ _⟩

set_option maxHeartbeats 1000000 in
set_option maxRecDepth 20000 in
theorem walk_in (a b : Option Addr) (n c m d i : Nat) (zs line : List Int) (w : World) (hv : Vw .u8 w a zs) (hw : Vw .u8 w b line) (hn : zs.length = n) (hm : line.length = m) (h0 : n + m ≤ 1048576) (hi : i < m) :
    Calls Try.prog 4 #[.slice a n c, .slice b m d, .int .i64 i] w fun e w' => e = .returned (.bool true) ∧ Below w.heap.size w w' := by
  have q22 : ∀ (w : World) (a : Option Addr) (n c n' c' : Nat), (binOp .eql 22 (.slice a n c) (.slice none n' c')).run Try.prog w = .ok (.bool a.isNone) w := fun w a n c n' c' => Lib.run_eql_slice_nil w _ _ a n c n' c' Try.underlying22
  have H := bytes12_any a b n c m d i w (by unfold maxLen; omega) (by unfold maxLen; omega)
  have H7 := clone_any a n c zs w hv hn (by omega)
  have Hn : Hid (zs.length = n) := hn
  have Hm : Hid (line.length = m) := hm
  clear hn hm
  go_enter Try.func4, Try.ntmps4
  go_wp2_with fail
  refine H.mono ?_
  rintro e w0 ⟨r, rfl, hw0, hr⟩
  cases hw0
  obtain rfl := hr h0
  clear H hr
  go_wp2_with fail
  refine H7.mono ?_
  rintro e w1 ⟨a1, rfl, ho1, hb1⟩
  have hl1 := hw.below hb1
  clear H7 hv hw
  go_wp2_with fail
  refine (clone_any b m d line w1 hl1 Hm.out (by omega)).mono ?_
  rintro e w2 ⟨a2, rfl, ho2, hb2⟩
  clear hl1
  go_wp2_with fail
  refine (clone_any a1 n n zs w2 (ho1.below hb2).vw Hn.out (by omega)).mono ?_
  rintro e w3 ⟨a3, rfl, ho3, hb3⟩
  have hw1 := (ho1.below hb2).below hb3
  have hl3 := (ho2.below hb3).vw
  have hz3 := ho3.vw
  have hB1 := hb1.size
  have hB2 := hb2.size
  have hB3 := hb3.size
  have hfar1 : ∀ t, (Value.slice a1 n n).ownBlock = some t → t < w1.heap.size := fun t ht => (World.ownsRow.lt ho1 t ht).2
  have hfar2 := ho2.far
  have hfar3 := ho3.far
  have HN2 : Hid (∀ b' off, a2 = some ⟨b', off, none⟩ → some b' ≠ (Value.slice a1 n n).ownBlock) := by
    intro b' off h e
    have := hfar1 b' e.symm
    have := hfar2 b' off h
    omega
  have HN3 : Hid (∀ b' off, a3 = some ⟨b', off, none⟩ → some b' ≠ (Value.slice a1 n n).ownBlock) := by
    intro b' off h e
    have := hfar1 b' e.symm
    have := hfar3 b' off h
    omega
  have hbw : Below w.heap.size w w3 := (hb1.trans (hb2.mono hB1)).trans (hb3.mono (Nat.le_trans hB1 hB2))
  have H10 := zzquoted_any w.heap.size (.slice a1 n n) a2 m m i zs line w3 hw1 (by omega) hl3 Hm.out HN2.out (by omega) (by have := Hn.out; omega)
  obtain ⟨bq, oq, haq, hcq⟩ := hl3 i (by have := Hm.out; omega)
  subst haq
  generalize hq : line.getD i 0 = q at hcq
  have HQ : Hid (line.getD i 0 = q) := hq
  clear hq hfar1 hfar2 hfar3 ho1 ho2 ho3 hb1 hb2 hb3
  go_wp2_with fail
  refine H10.mono ?_
  intro e w4 hP
  rcases hP with ⟨h1, rfl, v, hK⟩ | ⟨bs, k, v, h1, rfl, hO, hK⟩
  · have hb4 := hK.below hw1 (by omega)
    rw [Hm.out]
    clear hK h1
    go_wp2
    go_ret
    exact ⟨rfl, hbw.trans hb4⟩
  · have hb4 := hK.below hw1 (by omega)
    obtain ⟨s1, s2, s3, s4, s5⟩ := aq_span _ _ h1
    simp only [List.length_drop, Hm.out] at s2
    have hl4 : Vw .u8 w4 (some ⟨bq, oq, none⟩) line := hK.vw hl3 HN2.out
    have hz4 : Vw .u8 w4 a3 zs := hK.vw hz3 HN3.out
    obtain ⟨bp, op, hap, hcp⟩ := hl4 (i + k) (by have := Hm.out; omega)
    cases hap
    have hgq : line.getD (i + k) 0 = q := by
      rw [← HQ.out, ← s3]
      simp only [List.getD, List.getElem?_drop]
      rw [show i + 1 + (k - 1) = i + k by omega]
    rw [hgq] at hcp
    obtain ⟨av, cv, rfl, hlv, hcv, hnv, hvv, -⟩ := hO.shape
    have hlen : (zs ++ bs).length = n + bs.length := by rw [List.length_append, Hn.out]
    rw [hlen] at hlv ⊢
    have hvz : Vw .u8 w4 av zs := by
      intro t ht
      obtain ⟨b', off, h', hc'⟩ := hvv t (by rw [List.length_append]; omega)
      refine ⟨b', off, h', ?_⟩
      rw [hc']
      simp [List.getD, ht, List.getElem?_append_left]
    have e1 : ((i + 1 + k : Nat) : Int) = ((i + k : Nat) : Int) + 1 := by omega
    rw [e1]
    have p1 : i + 1 ≤ i + k := by omega
    have p2 : i + k < m := by omega
    have p3 : bs.length + i + 1 ≤ i + k := by omega
    have p4 : i + k ≤ 4 * bs.length + i + 1 := by omega
    generalize i + k = p at hcp p1 p2 p3 p4 ⊢
    generalize bs.length = L at hlv p3 p4 ⊢
    clear h1 s1 s2 s3 s4 s5 hgq hlen e1 hvv hO hK hl3 hz3 hcq H10 hw1
    unfold maxLen at hcv
    have H11 := same_any av a3 n cv n n zs zs w4 hvz hz4 Hn.out Hn.out (by omega) (by omega)
    rw [decide_eq_true rfl] at H11
    clear hvz hz4
    go_wp2_with fail
    refine H11.mono ?_
    rintro e w5 ⟨rfl, kk, hw5⟩
    have hb5 : Below w.heap.size w w5 := by rw [hw5]; exact below_drewN (hbw.trans hb4) kk
    clear hw5
    go_wp2
    go_ret
    exact ⟨ret_bool (decide_eq_true (by omega)), hb5⟩

end Go.Proofs.Qxb6606283a.fnAppendQuotedKeepsWordAndShrinksTheSpan
