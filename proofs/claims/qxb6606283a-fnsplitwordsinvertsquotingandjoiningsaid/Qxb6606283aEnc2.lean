/-
  SEAT b6606283a: THE WALKS OF 'b1AppendDoubleQuoted' AND 'b1Concat'.
-/
import Derived.Test.Qxb6606283aEnc
namespace Go.Proofs.Qxb6606283a
open Go.RowKit
set_option linter.unusedVariables false

theorem dq_step {base : Nat} {w' : World} {v' : Value} {zs p style : List Int} {k : Nat} {xs : List Int} (he : encB (modeI style k % 6) (p.getD k 0) = xs) (h : Ob base w' v' (zs ++ (34 :: dqTo p style k) ++ xs)) :
    Ob base w' v' (zs ++ (34 :: dqTo p style (k + 1))) := by
  rw [dqTo_succ, he]
  rw [List.append_assoc] at h
  exact h

/-- The bytes of a list. -/
def Bytes (l : List Int) : Prop := ∀ x ∈ l, 0 ≤ x ∧ x ≤ 255

theorem Bytes.at {l : List Int} (h : Bytes l) (k : Nat) : 0 ≤ l.getD k 0 ∧ l.getD k 0 ≤ 255 := by
  by_cases hk : k < l.length
  · have e : l.getD k 0 = l[k] := by simp [List.getD, hk]
    rw [e]
    exact h _ (List.getElem_mem hk)
  · simp [List.getD, show l.length ≤ k by omega]

set_option maxHeartbeats 2000000 in
set_option maxRecDepth 20000 in
theorem dq_any (base : Nat) (v0 : Value) (ap asx : Option Addr) (n cp m cs : Nat) (zs p style : List Int) (w : World) (ho : Ob base w v0 zs) (hbase : base ≤ w.heap.size)
    (hv : Vw .u8 w ap p) (hw : Vw .u8 w asx style) (hn : p.length = n) (hm : style.length = m) (hne1 : ∀ b off, ap = some ⟨b, off, none⟩ → some b ≠ v0.ownBlock) (hne2 : ∀ b off, asx = some ⟨b, off, none⟩ → some b ≠ v0.ownBlock)
    (hp : Bytes p) (hst : Bytes style) (hb : zs.length + 4 * n ≤ 1073741824) (hb2 : m ≤ 1073741824) :
    Calls Try.prog 8 #[v0, .slice ap n cp, .slice asx m cs] w fun e w' => AppPost base w v0 zs (dq p style) e w' := by
  have Hn : Hid (p.length = n) := hn
  have Hm : Hid (style.length = m) := hm
  have HN1 : Hid (∀ b off, ap = some ⟨b, off, none⟩ → some b ≠ v0.ownBlock) := hne1
  have HN2 : Hid (∀ b off, asx = some ⟨b, off, none⟩ → some b ≠ v0.ownBlock) := hne2
  clear hn hm hne1 hne2
  go_enter Try.func8, Try.ntmps8
  go_wp2_with (at_builtin; refine wpList_appN w #[.int .u8 34] rfl _ _ rfl base v0 zs rfl ho hbase [34] rfl 1 1 rfl (by intro h; cases h) rfl (by omega) ?_)
  intro v1 w1 hO1 hK1
  go_wp2
  go_loopw [0, 7] (fun v t wr => ∃ k : Nat, t = .int .i64 k ∧ k ≤ n ∧ Ob base wr v (zs ++ (34 :: dqTo p style k)) ∧ Kept w v0 wr v) (fun _ t _ => n - (intOf t).toNat)
  case atStart => exact ⟨0, rfl, Nat.zero_le _, hO1, hK1⟩
  case round =>
    clear hO1 hK1
    obtain ⟨k, rfl, hk, hO, hK⟩ := hrel
    have hbr : base ≤ wr.heap.size := Nat.le_trans hbase hK.1.size
    have hdl := dqTo_len p style k
    have hbd : (zs ++ (34 :: dqTo p style k)).length ≤ 1099511627700 := by rw [List.length_append, List.length_cons]; omega
    by_cases hlt : k < n
    · obtain ⟨b1, o1, ha, hc⟩ := (hK.vw hv HN1.out) k (by have := Hn.out; omega)
      subst ha
      have H15 := modeAt_any asx m cs k style wr (hK.vw hw HN2.out) Hm.out (by omega) (by omega)
      have hbb := hp.at k
      have hmm := hst.at (k % style.length)
      generalize hx : p.getD k 0 = b at hc hbb
      have HB : Hid (p.getD k 0 = b) := hx
      generalize hy : modeI style k = s at H15
      have HM : Hid (modeI style k = s) := hy
      have hs0 : 0 ≤ s ∧ s ≤ 255 := by rw [← hy]; exact hmm
      obtain ⟨hs0, hs1⟩ := hs0
      clear hx hy hmm
      go_wp2_with fail
      refine H15.mono ?_
      rintro e w5 ⟨rfl, hw5⟩
      cases hw5
      rcases (show s % 6 = 0 ∨ s % 6 = 1 ∨ s % 6 = 2 ∨ s % 6 = 3 ∨ s % 6 = 4 ∨ s % 6 = 5 from by omega) with hs6 | hs6 | hs6 | hs6 | hs6 | hs6
      · by_cases hq : b = 34 ∨ b = 92
        · have HE : Hid (encB (modeI style k % 6) (p.getD k 0) = [92, b]) := by rw [HB.out, HM.out, hs6]; unfold Hid encB; rw [if_pos rfl, if_pos hq]
          by_cases h34 : (b == 34) = true
          · skip
            go_wp2_with (at_builtin; refine wpList_appN wr #[.int .u8 92] rfl _ _ rfl base u0 (zs ++ (34 :: dqTo p style k)) rfl hO hbr [92] rfl 1 1 rfl (by intro h; cases h) rfl (by omega) ?_)
            intro v' w' hO' hK'
            have hbr' : base ≤ w'.heap.size := Nat.le_trans hbr hK'.1.size
            have hbd' : (zs ++ (34 :: (dqTo p style k ++ [92]))).length + 1 ≤ 1099511627776 := by simp at hbd ⊢; omega
            have hO2 : Ob base w' v' (zs ++ (34 :: (dqTo p style k ++ [92]))) := by simpa using hO'
            clear hO' hO
            go_wp2_with (at_builtin; refine wpList_appN w' #[.int .u8 b] rfl _ _ rfl base v' (zs ++ (34 :: (dqTo p style k ++ [92]))) rfl hO2 hbr' [b] rfl 1 1 rfl (by intro h; cases h) rfl hbd' ?_)
            intro v2 w2 hO3 hK3
            go_wp2
            go_roundw
            case rel => exact ⟨k + 1, by go_num, by omega, dq_step HE.out (by simpa using hO3), (hK.trans hK').trans hK3⟩
            case measure => simp [intOf]; omega
          · have h34 : (b == 34) = false := by simpa using h34
            have h92 : (b == 92) = true := beq_iff_eq.2 (by rcases hq with h | h; exact absurd (beq_iff_eq.2 h) (by simp [h34]); exact h)
            go_wp2_with (at_builtin; refine wpList_appN wr #[.int .u8 92] rfl _ _ rfl base u0 (zs ++ (34 :: dqTo p style k)) rfl hO hbr [92] rfl 1 1 rfl (by intro h; cases h) rfl (by omega) ?_)
            intro v' w' hO' hK'
            have hbr' : base ≤ w'.heap.size := Nat.le_trans hbr hK'.1.size
            have hbd' : (zs ++ (34 :: (dqTo p style k ++ [92]))).length + 1 ≤ 1099511627776 := by simp at hbd ⊢; omega
            have hO2 : Ob base w' v' (zs ++ (34 :: (dqTo p style k ++ [92]))) := by simpa using hO'
            clear hO' hO
            go_wp2_with (at_builtin; refine wpList_appN w' #[.int .u8 b] rfl _ _ rfl base v' (zs ++ (34 :: (dqTo p style k ++ [92]))) rfl hO2 hbr' [b] rfl 1 1 rfl (by intro h; cases h) rfl hbd' ?_)
            intro v2 w2 hO3 hK3
            go_wp2
            go_roundw
            case rel => exact ⟨k + 1, by go_num, by omega, dq_step HE.out (by simpa using hO3), (hK.trans hK').trans hK3⟩
            case measure => simp [intOf]; omega
        · have HE : Hid (encB (modeI style k % 6) (p.getD k 0) = [b]) := by rw [HB.out, HM.out, hs6]; unfold Hid encB; rw [if_pos rfl, if_neg hq]
          have h34 : (b == 34) = false := beq_eq_false_iff_ne.2 (fun h => hq (Or.inl h))
          have h92 : (b == 92) = false := beq_eq_false_iff_ne.2 (fun h => hq (Or.inr h))
          clear hq
          go_wp2_with (at_builtin; refine wpList_appN wr #[.int .u8 b] rfl _ _ rfl base u0 (zs ++ (34 :: dqTo p style k)) rfl hO hbr [b] rfl 1 1 rfl (by intro h; cases h) rfl (by omega) ?_)
          intro v' w' hO' hK'
          go_wp2
          go_roundw
          case rel => exact ⟨k + 1, by go_num, by omega, dq_step HE.out (by simpa using hO'), hK.trans hK'⟩
          case measure => simp [intOf]; omega
      · have H18 := hexEscape_any base u0 (zs ++ (34 :: dqTo p style k)) b false false wr hO hbr hbb hbd
        have HE : Hid (encB (modeI style k % 6) (p.getD k 0) = hexEsc b false false) := by rw [HB.out, HM.out, hs6]; rfl
        clear hO
        go_wp2_with fail
        refine H18.mono ?_
        rintro e w' ⟨v', rfl, hO', hK'⟩
        go_wp2
        go_roundw
        case rel => exact ⟨k + 1, by go_num, by omega, dq_step HE.out hO', hK.trans hK'⟩
        case measure => simp [intOf]; omega
      · have H18 := hexEscape_any base u0 (zs ++ (34 :: dqTo p style k)) b true true wr hO hbr hbb hbd
        have HE : Hid (encB (modeI style k % 6) (p.getD k 0) = hexEsc b true true) := by rw [HB.out, HM.out, hs6]; rfl
        clear hO
        go_wp2_with fail
        refine H18.mono ?_
        rintro e w' ⟨v', rfl, hO', hK'⟩
        go_wp2
        go_roundw
        case rel => exact ⟨k + 1, by go_num, by omega, dq_step HE.out hO', hK.trans hK'⟩
        case measure => simp [intOf]; omega
      · have H19 := letter_any base u0 (zs ++ (34 :: dqTo p style k)) b wr hO hbr hbb hbd
        have HE : Hid (encB (modeI style k % 6) (p.getD k 0) = letterEsc b) := by rw [HB.out, HM.out, hs6]; rfl
        clear hO
        go_wp2_with fail
        refine H19.mono ?_
        rintro e w' ⟨v', rfl, hO', hK'⟩
        go_wp2
        go_roundw
        case rel => exact ⟨k + 1, by go_num, by omega, dq_step HE.out hO', hK.trans hK'⟩
        case measure => simp [intOf]; omega
      · have H18 := hexEscape_any base u0 (zs ++ (34 :: dqTo p style k)) b true false wr hO hbr hbb hbd
        have HE : Hid (encB (modeI style k % 6) (p.getD k 0) = hexEsc b true false) := by rw [HB.out, HM.out, hs6]; rfl
        clear hO
        go_wp2_with fail
        refine H18.mono ?_
        rintro e w' ⟨v', rfl, hO', hK'⟩
        go_wp2
        go_roundw
        case rel => exact ⟨k + 1, by go_num, by omega, dq_step HE.out hO', hK.trans hK'⟩
        case measure => simp [intOf]; omega
      · have H18 := hexEscape_any base u0 (zs ++ (34 :: dqTo p style k)) b false true wr hO hbr hbb hbd
        have HE : Hid (encB (modeI style k % 6) (p.getD k 0) = hexEsc b false true) := by rw [HB.out, HM.out, hs6]; rfl
        clear hO
        go_wp2_with fail
        refine H18.mono ?_
        rintro e w' ⟨v', rfl, hO', hK'⟩
        go_wp2
        go_roundw
        case rel => exact ⟨k + 1, by go_num, by omega, dq_step HE.out hO', hK.trans hK'⟩
        case measure => simp [intOf]; omega
    · obtain rfl : k = n := by omega
      go_wp2_with (at_builtin; refine wpList_appN wr #[.int .u8 34] rfl _ _ rfl base u0 (zs ++ (34 :: dqTo p style k)) rfl hO hbr [34] rfl 1 1 rfl (by intro h; cases h) rfl (by omega) ?_)
      intro v' w' hO' hK'
      go_wp2
      go_ret
      refine ⟨v', rfl, ?_, hK.trans hK'⟩
      unfold dq
      rw [Hn.out]
      simpa using hO'

set_option maxHeartbeats 1000000 in
theorem concat_any (aa ab : Option Addr) (n ca m cb : Nat) (xs ys : List Int) (w : World) (hv : Vw .u8 w aa xs) (hw : Vw .u8 w ab ys) (hn : xs.length = n) (hm : ys.length = m) (hna : aa = none → ca = 0) (hnb : ab = none → cb = 0)
    (hb : n + m ≤ 1073741824) :
    Calls Try.prog 9 #[.slice aa n ca, .slice ab m cb] w fun e w' => ∃ v, e = .returned v ∧ Ob w.heap.size w' v (xs ++ ys) ∧ Below w.heap.size w w' := by
  obtain ⟨i0, hi, hz0, hz1, hz2⟩ := info_parts Try.info5
  have Hn : Hid (xs.length = n) := hn
  have Hm : Hid (ys.length = m) := hm
  clear hn hm
  go_enter Try.func9, Try.ntmps9
  go_wp2_with (at_make; refine wpList_make_own _ rfl _ _ 22 rfl w.heap.size 5 i0 (.int .u8 0) 1 Try.underlying22 hi hz0 hz1 .i64 .i64 _ (n + m) rfl rfl (by omega) ?c1 ?c2 ?c3 ?_)
  case c1 => rw [hz2]; omega
  case c2 => unfold maxLen; omega
  case c3 => omega
  intro w1 hown hgrow
  have hb1 : Below w.heap.size w w1 := (Below.refl _ w).grown hgrow (Nat.le_refl _) (by intro k h; cases h)
  have ho1 : Ob w.heap.size w1 (.slice (some ⟨w.heap.size, 0, none⟩) 0 (n + m)) [] := hown
  have hv1 := hv.below hb1
  have hw1 := hw.below hb1
  have hlt : (Value.slice (some ⟨w.heap.size, 0, none⟩) 0 (n + m)).ownBlock = some w.heap.size := rfl
  clear hown hgrow
  go_wp2_with (at_builtin; refine wpList_app w1 rfl _ _ rfl w.heap.size (.slice (some ⟨w.heap.size, 0, none⟩) 0 (n + m)) [] rfl ho1 hb1.size aa n ca xs rfl hna hv1 Hn.out (by simp; omega) ?_)
  intro v2 w2 hO2 hK2
  have hw2 : Vw .u8 w2 ab ys := by
    intro t ht
    obtain ⟨b, off, h, hc, hbl⟩ := hw.lt t ht
    refine ⟨b, off, h, hK2.1.cell ((hb1.cell hbl).trans hc) ?_⟩
    rw [hlt]
    intro e
    cases e
    simp at hbl
  have hb2 := hK2.below ho1 hb1.size
  have hbr2 : w.heap.size ≤ w2.heap.size := Nat.le_trans hb1.size hb2.size
  clear hw1 hv1 ho1 hlt hv hw
  go_wp2_with (at_builtin; refine wpList_app w2 rfl _ _ rfl w.heap.size v2 xs rfl hO2 hbr2 ab m cb ys rfl hnb hw2 Hm.out (by rw [Hn.out]; omega) ?_)
  intro v3 w3 hO3 hK3
  have hb3 := hK3.below hO2 hbr2
  go_wp2
  go_ret
  exact ⟨v3, rfl, hO3, (hb1.trans hb2).trans hb3⟩

end Go.Proofs.Qxb6606283a
