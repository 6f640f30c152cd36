/-
  SEAT b6606283a: THE WALK OF 'FnAppendQuotedDecodesDoubleQuotedEncoding'.
-/
import Derived.Test.Qxb6606283aQuoted
import Derived.Test.Qxb6606283aEnc2
namespace Go.Proofs.Qxb6606283a.fnAppendQuotedDecodesDoubleQuotedEncoding
open Go.RowKit
set_option linter.unusedVariables false

set_option maxHeartbeats 1000000 in
theorem bytes6_any (a0 a1 a2 a3 a4 : Option Addr) (n0 c0 n1 c1 n2 c2 n3 c3 n4 c4 : Nat) (w : World) (h0 : n0 ≤ maxLen) (h1 : n1 ≤ maxLen) (h2 : n2 ≤ maxLen) (h3 : n3 ≤ maxLen) (h4 : n4 ≤ maxLen) :
    Calls Try.prog 6 #[.slice a0 n0 c0, .slice a1 n1 c1, .slice a2 n2 c2, .slice a3 n3 c3, .slice a4 n4 c4] w fun e w' => ∃ r : Bool, e = .returned (.bool r) ∧ w' = w ∧ (n0 + n1 + n2 + n3 + n4 ≤ 1048576 → r = true) := by
  unfold maxLen at h0 h1 h2 h3 h4
  go_enter Try.func6, Try.ntmps6
  go_wp2
  all_goals
    go_ret
    exact ⟨_, rfl, rfl, fun h1 => by first | rfl | omega⟩

set_option maxHeartbeats 2000000 in
theorem walk_out (a0 a1 a2 a3 a4 : Option Addr) (n0 c0 n1 c1 n2 c2 n3 c3 n4 c4 : Nat) (w : World) (h : ¬ n0 + n1 + n2 + n3 + n4 ≤ 1048576) (m0 : n0 ≤ maxLen) (m1 : n1 ≤ maxLen) (m2 : n2 ≤ maxLen) (m3 : n3 ≤ maxLen) (m4 : n4 ≤ maxLen) :
    Calls Try.prog 3 #[.slice a0 n0 c0, .slice a1 n1 c1, .slice a2 n2 c2, .slice a3 n3 c3, .slice a4 n4 c4] w fun e w' => e = .returned (.bool true) ∧ Below w.heap.size w w' := by
  have H := bytes6_any a0 a1 a2 a3 a4 n0 c0 n1 c1 n2 c2 n3 c3 n4 c4 w m0 m1 m2 m3 m4
  unfold maxLen at m0 m1 m2 m3 m4
  by_cases h0 : n0 ≤ 1048576
  · skip
    by_cases h1 : n1 ≤ 1048576
    · skip
      by_cases h2 : n2 ≤ 1048576
      · skip
        by_cases h3 : n3 ≤ 1048576
        · skip
          by_cases h4 : n4 ≤ 1048576
          · skip
            go_enter Try.func3, Try.ntmps3
            go_wp2_with fail
            refine H.mono ?_
            rintro e w' ⟨r, rfl, rfl, -⟩
            cases r
            all_goals
              go_wp2
              go_ret
              exact ⟨rfl, Below.refl _ _⟩
          · skip
            go_enter Try.func3, Try.ntmps3
            go_wp2_with fail
            refine H.mono ?_
            rintro e w' ⟨r, rfl, rfl, -⟩
            cases r
            all_goals
              go_wp2
              go_ret
              exact ⟨rfl, Below.refl _ _⟩
        · skip
          go_enter Try.func3, Try.ntmps3
          go_wp2_with fail
          refine H.mono ?_
          rintro e w' ⟨r, rfl, rfl, -⟩
          cases r
          all_goals
            go_wp2
            go_ret
            exact ⟨rfl, Below.refl _ _⟩
      · skip
        go_enter Try.func3, Try.ntmps3
        go_wp2_with fail
        refine H.mono ?_
        rintro e w' ⟨r, rfl, rfl, -⟩
        cases r
        all_goals
          go_wp2
          go_ret
          exact ⟨rfl, Below.refl _ _⟩
    · skip
      go_enter Try.func3, Try.ntmps3
      go_wp2_with fail
      refine H.mono ?_
      rintro e w' ⟨r, rfl, rfl, -⟩
      cases r
      all_goals
        go_wp2
        go_ret
        exact ⟨rfl, Below.refl _ _⟩
  · skip
    go_enter Try.func3, Try.ntmps3
    go_wp2_with fail
    refine H.mono ?_
    rintro e w' ⟨r, rfl, rfl, -⟩
    cases r
    all_goals
      go_wp2
      go_ret
      exact ⟨rfl, Below.refl _ _⟩

/-- What the line comes to: the decoder finds the payload. -/
theorem line_dec (pre p style tail : List Int) (hp : Bytes p) : aq ((pre ++ dq p style ++ tail).getD pre.length 0) ((pre ++ dq p style ++ tail).length + 1) ((pre ++ dq p style ++ tail).drop (pre.length + 1)) = some (p, (dqTo p style p.length).length + 1) := by
  have e1 : (pre ++ dq p style ++ tail).getD pre.length 0 = 34 := by
    unfold dq
    simp [List.getD]
  have e2 : (pre ++ dq p style ++ tail).drop (pre.length + 1) = dqTo p style p.length ++ 34 :: tail := by
    unfold dq
    rw [List.append_assoc, ← List.drop_drop, List.drop_left]
    simp
  rw [e1, e2]
  refine aq_enc p style tail _ hp ?_
  have hlen : p.length ≤ (dqTo p style p.length).length := dqTo_ge p style p.length
  simp only [dq, List.length_append, List.length_cons]
  omega

set_option maxHeartbeats 2000000 in
set_option maxRecDepth 20000 in
theorem walk_in (a0 a1 a2 a3 a4 : Option Addr) (n0 c0 n1 c1 n2 c2 n3 c3 n4 c4 : Nat) (word pre p style tail : List Int) (w : World)
    (hv0 : Vw .u8 w a0 word) (hv1 : Vw .u8 w a1 pre) (hv2 : Vw .u8 w a2 p) (hv3 : Vw .u8 w a3 style) (hv4 : Vw .u8 w a4 tail)
    (l0 : word.length = n0) (l1 : pre.length = n1) (l2 : p.length = n2) (l3 : style.length = n3) (l4 : tail.length = n4) (hp : Bytes p) (hst : Bytes style)
    (h : n0 + n1 + n2 + n3 + n4 ≤ 1048576) :
    Calls Try.prog 3 #[.slice a0 n0 c0, .slice a1 n1 c1, .slice a2 n2 c2, .slice a3 n3 c3, .slice a4 n4 c4] w fun e w' => e = .returned (.bool true) ∧ Below w.heap.size w w' := by
  have H := bytes6_any a0 a1 a2 a3 a4 n0 c0 n1 c1 n2 c2 n3 c3 n4 c4 w (by unfold maxLen; omega) (by unfold maxLen; omega) (by unfold maxLen; omega) (by unfold maxLen; omega) (by unfold maxLen; omega)
  have L0 : Hid (word.length = n0) := l0
  have L1 : Hid (pre.length = n1) := l1
  have L2 : Hid (p.length = n2) := l2
  have L3 : Hid (style.length = n3) := l3
  have L4 : Hid (tail.length = n4) := l4
  have HD := line_dec pre p style tail hp
  have HDq : Hid (aq ((pre ++ dq p style ++ tail).getD pre.length 0) ((pre ++ dq p style ++ tail).length + 1) ((pre ++ dq p style ++ tail).drop (pre.length + 1)) = some (p, (dqTo p style p.length).length + 1)) := HD
  have hdql : (dq p style).length = (dqTo p style p.length).length + 2 := by simp [dq]
  have HdqL : Hid ((dq p style).length = (dqTo p style p.length).length + 2) := hdql
  have hdl : (dq p style).length ≤ 4 * n2 + 2 := by have := dqTo_len p style p.length; omega
  clear hdql
  clear l0 l1 l2 l3 l4 HD
  go_enter Try.func3, Try.ntmps3
  go_wp2_with fail
  refine H.mono ?_
  rintro e wz ⟨r, rfl, hwz, hr⟩
  cases hwz
  obtain rfl := hr h
  clear H hr
  -- word
  go_wp2_with fail
  refine (clone_any a0 n0 c0 word w hv0 L0.out (by omega)).mono ?_
  rintro e w1 ⟨b0, rfl, o0, q1⟩
  replace hv1 := hv1.below q1
  replace hv2 := hv2.below q1
  replace hv3 := hv3.below q1
  replace hv4 := hv4.below q1
  have s1 := q1.size
  have far0 : ∀ t, (Value.slice b0 n0 n0).ownBlock = some t → t < w1.heap.size := fun t ht => (World.ownsRow.lt o0 t ht).2
  have Q1 : Below w.heap.size w w1 := q1
  clear hv0 q1
  -- pre
  go_wp2_with fail
  refine (clone_any a1 n1 c1 pre w1 hv1 L1.out (by omega)).mono ?_
  rintro e w2 ⟨b1, rfl, o1, q2⟩
  replace hv2 := hv2.below q2
  replace hv3 := hv3.below q2
  replace hv4 := hv4.below q2
  replace o0 := o0.below q2
  have s2 := q2.size
  have Q2 : Below w.heap.size w w2 := Q1.trans (q2.mono s1)
  have nb1 := o1.shape
  clear hv1 q2 Q1
  -- payload
  go_wp2_with fail
  refine (clone_any a2 n2 c2 p w2 hv2 L2.out (by omega)).mono ?_
  rintro e w3 ⟨b2, rfl, o2, q3⟩
  replace hv3 := hv3.below q3
  replace hv4 := hv4.below q3
  replace o0 := o0.below q3
  replace o1 := o1.below q3
  have s3 := q3.size
  have Q3 : Below w.heap.size w w3 := Q2.trans (q3.mono (by omega))
  clear hv2 q3 Q2
  -- style
  go_wp2_with fail
  refine (clone_any a3 n3 c3 style w3 hv3 L3.out (by omega)).mono ?_
  rintro e w4 ⟨b3, rfl, o3, q4⟩
  replace hv4 := hv4.below q4
  replace o0 := o0.below q4
  replace o1 := o1.below q4
  replace o2 := o2.below q4
  have s4 := q4.size
  have Q4 : Below w.heap.size w w4 := Q3.trans (q4.mono (by omega))
  clear hv3 q4 Q3
  -- tail
  go_wp2_with fail
  refine (clone_any a4 n4 c4 tail w4 hv4 L4.out (by omega)).mono ?_
  rintro e w5 ⟨b4, rfl, o4, q5⟩
  replace o0 := o0.below q5
  replace o1 := o1.below q5
  replace o2 := o2.below q5
  replace o3 := o3.below q5
  have s5 := q5.size
  have Q5 : Below w.heap.size w w5 := Q4.trans (q5.mono (by omega))
  clear hv4 q5 Q4 nb1
  -- w0
  go_wp2_with fail
  refine (clone_any b0 n0 n0 word w5 o0.vw L0.out (by omega)).mono ?_
  rintro e w6 ⟨b5, rfl, o5, q6⟩
  replace o0 := o0.below q6
  replace o1 := o1.below q6
  replace o2 := o2.below q6
  replace o3 := o3.below q6
  replace o4 := o4.below q6
  have s6 := q6.size
  have Q6 : Below w.heap.size w w6 := Q5.trans (q6.mono (by omega))
  clear q6 Q5
  -- enc
  go_wp2_with fail
  refine (dq_any w6.heap.size (.slice none 0 0) b2 b3 n2 n2 n3 n3 [] p style w6 (World.ownsRow_nil _ _ _ _) (Nat.le_refl _) o2.vw o3.vw L2.out L3.out (fun b off _ hh => by simp [Value.ownBlock] at hh) (fun b off _ hh => by simp [Value.ownBlock] at hh) hp hst (by simp; omega) (by omega)).mono ?_
  rintro e w7 ⟨v7, rfl, o7, k7⟩
  have q7 := k7.below (B := w6.heap.size) (zs := []) (World.ownsRow_nil _ _ _ _) (Nat.le_refl _)
  rw [List.nil_append] at o7
  replace o0 := o0.below q7
  replace o1 := o1.below q7
  replace o2 := o2.below q7
  replace o4 := o4.below q7
  replace o5 := o5.below q7
  have s7 := q7.size
  have Q7 : Below w.heap.size w w7 := Q6.trans (q7.mono (by omega))
  obtain ⟨b7, c7, rfl, m7, -, z7, x7, -⟩ := o7.shape
  clear q7 Q6 k7 o3
  -- line
  have z1 : b1 = none → n1 = 0 := by obtain ⟨a', c', e', _, _, hz, _⟩ := o1.shape; cases e'; exact hz
  have z4 : b4 = none → n4 = 0 := by obtain ⟨a', c', e', _, _, hz, _⟩ := o4.shape; cases e'; exact hz
  have z2 : b2 = none → n2 = 0 := by obtain ⟨a', c', e', _, _, hz, _⟩ := o2.shape; cases e'; exact hz
  have z5 : b5 = none → n0 = 0 := by obtain ⟨a', c', e', _, _, hz, _⟩ := o5.shape; cases e'; exact hz
  obtain ⟨D, hD⟩ : ∃ D, (dq p style).length = D := ⟨_, rfl⟩
  have LD : Hid ((dq p style).length = D) := hD
  have hDb : D ≤ 4 * n2 + 2 := by omega
  rw [hD] at m7 ⊢
  clear hD
  go_wp2_with fail
  refine (concat_any b1 b7 n1 n1 D c7 pre (dq p style) w7 o1.vw x7 L1.out LD.out z1 z7 (by omega)).mono ?_
  rintro e w8 ⟨v8, rfl, o8, q8⟩
  replace o0 := o0.below q8
  replace o2 := o2.below q8
  replace o4 := o4.below q8
  replace o5 := o5.below q8
  have s8 := q8.size
  have Q8 : Below w.heap.size w w8 := Q7.trans (q8.mono (by omega))
  obtain ⟨b8, c8, rfl, m8, -, z8, x8, -⟩ := o8.shape
  have l8 : (pre ++ dq p style).length = n1 + D := by rw [List.length_append, L1.out, LD.out]
  have L8 : Hid ((pre ++ dq p style).length = n1 + D) := l8
  rw [l8] at m8 ⊢
  clear l8 q8 Q7 o1 o7 x7 o8
  go_wp2_with fail
  refine (concat_any b8 b4 (n1 + D) c8 n4 n4 (pre ++ dq p style) tail w8 x8 o4.vw L8.out L4.out z8 z4 (by omega)).mono ?_
  rintro e w9 ⟨v9, rfl, o9, q9⟩
  replace o0 := o0.below q9
  replace o2 := o2.below q9
  replace o5 := o5.below q9
  have s9 := q9.size
  have Q9 : Below w.heap.size w w9 := Q8.trans (q9.mono (by omega))
  obtain ⟨b9, c9, rfl, m9, -, z9, x9, f9⟩ := o9.shape
  have l9 : (pre ++ dq p style ++ tail).length = n1 + D + n4 := by rw [List.length_append, L8.out, L4.out]
  have L9 : Hid ((pre ++ dq p style ++ tail).length = n1 + D + n4) := l9
  rw [l9] at m9 ⊢
  clear l9 q9 Q8 x8 o4 o9
  have F2 := o2.far
  have F5 := o5.far
  have N9 : Hid (∀ b' off, b9 = some ⟨b', off, none⟩ → some b' ≠ (Value.slice b0 n0 n0).ownBlock) := by
    intro b' off hb' e
    have g1 := far0 b' e.symm
    have g2 := (f9 b' off hb').1
    omega
  have N2 : Hid (∀ b' off, b2 = some ⟨b', off, none⟩ → some b' ≠ (Value.slice b0 n0 n0).ownBlock) := by
    intro b' off hb' e
    have g1 := far0 b' e.symm
    have g2 := (F2 b' off hb').1
    omega
  have N5 : Hid (∀ b' off, b5 = some ⟨b', off, none⟩ → some b' ≠ (Value.slice b0 n0 n0).ownBlock) := by
    intro b' off hb' e
    have g1 := far0 b' e.symm
    have g2 := (F5 b' off hb').1
    omega
  have H10 := zzquoted_any w.heap.size (.slice b0 n0 n0) b9 (n1 + D + n4) c9 n1 word (pre ++ dq p style ++ tail) w9 o0 (by omega) x9 L9.out N9.out (by have := LD.out; have := HdqL.out; omega) (by have := L0.out; omega)
  clear f9 F2 F5 far0
  go_wp2_with fail
  refine H10.mono ?_
  intro e wa hP
  have HDq' := HDq.out
  rw [L1.out] at HDq'
  rcases hP with ⟨h1, -, -⟩ | ⟨bs, k, v, h1, rfl, hO, hK⟩
  · rw [h1] at HDq'; cases HDq'
  · rw [h1] at HDq'
    simp only [Option.some.injEq, Prod.mk.injEq] at HDq'
    obtain ⟨rfl, rfl⟩ := HDq'
    have qa := hK.below o0 (by omega)
    have Qa : Below w.heap.size w wa := Q9.trans qa
    have y2 := hK.vw o2.vw N2.out
    have y5 := hK.vw o5.vw N5.out
    obtain ⟨ba, ca, rfl, ma, -, -, xa, -⟩ := hO.shape
    have la : (word ++ bs).length = n0 + n2 := by rw [List.length_append, L0.out, L2.out]
    have La : Hid ((word ++ bs).length = n0 + n2) := la
    have e1 : ((n1 + 1 + ((dqTo bs style bs.length).length + 1) : Nat) : Int) = (n1 : Int) + (D : Int) := by have := LD.out; have := HdqL.out; omega
    rw [la] at ma ⊢
    rw [e1]
    clear h1 H10 hK hO o0 o2 o5 x9 HDq la e1
    go_wp2_with fail
    refine (concat_any b5 b2 n0 n0 n2 n2 word bs wa y5 y2 L0.out L2.out z5 z2 (by omega)).mono ?_
    rintro e wb ⟨vb, rfl, ob, qb⟩
    have Qb : Below w.heap.size w wb := Qa.trans (qb.mono (by have := Qa.size; omega))
    have xb := xa.below qb
    obtain ⟨bb, cb, rfl, mb, -, -, xbb, -⟩ := ob.shape
    rw [La.out] at mb ⊢
    have H11 := same_any ba bb (n0 + n2) ca (n0 + n2) cb (word ++ bs) (word ++ bs) wb xb xbb La.out La.out (by omega) (by omega)
    rw [decide_eq_true rfl] at H11
    clear ob xa xb xbb y2 y5
    go_wp2_with fail
    refine H11.mono ?_
    rintro e wc ⟨rfl, kk, hwc⟩
    have hbc : Below w.heap.size w wc := by rw [hwc]; exact below_drewN Qb kk
    clear hwc
    go_wp2
    go_ret
    exact ⟨rfl, hbc⟩

end Go.Proofs.Qxb6606283a.fnAppendQuotedDecodesDoubleQuotedEncoding
