/-
  SEAT b6606283a: THE WALK OF 'splitWords' AND 'ZZsplitWords'.
-/
import Derived.Test.Qxb6606283aSplitMem
namespace Go.Proofs.Qxb6606283a
open Go.RowKit
set_option linter.unusedVariables false

/-- What the outer loop knows at its head. -/
def SRel (w : World) (line : List Int) (ws : List (List Int)) (v : Value) (i : Nat) (wr : World) : Prop :=
  ∃ f A R, WOwn w.heap.size wr v A ∧ Below w.heap.size w wr ∧ A.length ≤ i ∧ swf (line.length + 1) f (line.drop i) = some R ∧ ws = A ++ R

/-- What the loop over one word knows at its head: wd is the word, 'stop' where it ends, w0 the world before it was begun. -/
def WRel (w0 : World) (line : List Int) (wd : List Int) (start stop : Nat) (v : Value) (j : Nat) (wr : World) : Prop :=
  ∃ f wd0 rw k, Ob w0.heap.size wr v wd0 ∧ Below w0.heap.size w0 wr ∧ start ≤ j ∧ wd0.length + start ≤ j ∧ w0.heap.size < wr.heap.size ∧
    sww (line.length + 1) f (line.drop j) = some (rw, k) ∧ wd = wd0 ++ rw ∧ stop = j + k

theorem ob_new (w : World) : Ob w.heap.size (w.alloc (.cells #[] 5)) (.slice (some ⟨w.heap.size, 0, none⟩) 0 0) [] :=
  World.ownsRow_made w #[] 0 (Nat.le_refl _) (Nat.zero_le _) rfl

set_option maxHeartbeats 2000000 in
set_option maxRecDepth 20000 in
theorem split_any (a : Option Addr) (n c : Nat) (line : List Int) (ws : List (List Int)) (w : World) (hv : Vw .u8 w a line) (hn : line.length = n) (hb : n ≤ 16777216) (hs : swf (line.length + 1) (line.length + 1) line = some ws) :
    Calls Try.prog 24 #[.slice a n c] w fun e w' => ∃ v, e = .returned (.tuple #[v, .bool true]) ∧ WOwn w.heap.size w' v ws ∧ Below w.heap.size w w' := by
  have Hn : Hid (line.length = n) := hn
  have HS : Hid (SRel w line ws (.slice none 0 0) 0 w) := ⟨line.length + 1, [], ws, WOwn.nil _ _, Below.refl _ _, by simp, by simpa using hs, rfl⟩
  obtain ⟨i0, hi, hz0, hz1, hz2⟩ := info_parts Try.info22
  clear hn hs
  go_enter Try.func24, Try.ntmps24
  go_wp2
  go_loopw [4, 5] (fun v t wr => ∃ i : Nat, t = .int .i64 i ∧ i ≤ n ∧ SRel w line ws v i wr) (fun _ t _ => n - (intOf t).toNat)
  case atStart => exact ⟨0, rfl, Nat.zero_le _, HS.out⟩
  case round =>
    clear HS
    obtain ⟨i, rfl, hin, hR⟩ := hrel
    have HR : Hid (SRel w line ws u4 i wr) := hR
    clear hR
    obtain ⟨wo, rfl⟩ : ∃ wo : World, wo = wr := ⟨_, rfl⟩
    obtain ⟨f, A, R, hWO, hBel, hAl, hsw, hws⟩ := HR.out
    have HW : Hid (ws = A ++ R) := hws
    have HSW : Hid (swf (line.length + 1) f (line.drop i) = some R) := hsw
    clear hws hsw HR
    have hvr := hv.below hBel
    have hsk := skipN_le (line.drop i)
    rw [List.length_drop, Hn.out] at hsk
    go_wp2
    have hround := swf_round HSW.out (by have := Hn.out; omega)
    rw [Hn.out] at hround
    obtain ⟨s, hsE⟩ : ∃ s, skipN (line.drop i) = s := ⟨_, rfl⟩
    rw [hsE] at hround hsk
    have HsE : Hid (skipN (line.drop i) = s) := hsE
    clear hsE
    rcases hround with ⟨h1, h2⟩ | ⟨h1, h2, wd, k, R', f', h3, h4, h5, h6⟩
    · have HA : Hid (ws = A) := by rw [HW.out, h2, List.append_nil]; rfl
      clear h2
      go_loop [5] (fun t => ∃ j : Nat, t = .int .i64 j ∧ i ≤ j ∧ j ≤ i + s) (fun t => i + s - (intOf t).toNat)
      case atStart => exact ⟨i, rfl, Nat.le_refl _, by omega⟩
      case round =>
        obtain ⟨j, rfl, hj1, hj2⟩ := hrel
        by_cases hlt : j < i + s
        · obtain ⟨b1, o1, ha, hc⟩ := hvr j (by have := Hn.out; omega)
          subst ha
          have hwj : wsB (line.getD j 0) = true := by
            have := skipN_at (line.drop i) (j - i) (by rw [HsE.out]; omega)
            simp only [List.getD, List.getElem?_drop] at this
            rw [show i + (j - i) = j by omega] at this
            exact this
          have K1 := isSpace_any (line.getD j 0) wo
          rw [hwj] at K1
          generalize line.getD j 0 = x at hc K1
          clear hwj
          go_wp2_with fail
          refine K1.mono ?_
          rintro e w5 ⟨rfl, hw5⟩
          cases hw5
          go_wp2
          go_round
          case rel => exact ⟨j + 1, by go_num, by omega, by omega⟩
          case measure => simp [intOf]; omega
        · obtain rfl : j = n := by omega
          go_wp2
          go_ret2
          exact ⟨u4, rfl, by rw [HA.out]; exact hWO, hBel⟩
    · go_loop [5] (fun t => ∃ j : Nat, t = .int .i64 j ∧ i ≤ j ∧ j ≤ i + s) (fun t => i + s - (intOf t).toNat)
      case atStart => exact ⟨i, rfl, Nat.le_refl _, by omega⟩
      case round =>
        obtain ⟨j, rfl, hj1, hj2⟩ := hrel
        by_cases hlt : j < i + s
        · obtain ⟨b1, o1, ha, hc⟩ := hvr j (by have := Hn.out; omega)
          subst ha
          have hwj : wsB (line.getD j 0) = true := by
            have := skipN_at (line.drop i) (j - i) (by rw [HsE.out]; omega)
            simp only [List.getD, List.getElem?_drop] at this
            rw [show i + (j - i) = j by omega] at this
            exact this
          have K1 := isSpace_any (line.getD j 0) wo
          rw [hwj] at K1
          generalize line.getD j 0 = x at hc K1
          clear hwj
          go_wp2_with fail
          refine K1.mono ?_
          rintro e w5 ⟨rfl, hw5⟩
          cases hw5
          go_wp2
          go_round
          case rel => exact ⟨j + 1, by go_num, by omega, by omega⟩
          case measure => simp [intOf]; omega
        · obtain ⟨st, hst⟩ : ∃ st, i + s = st := ⟨_, rfl⟩
          obtain rfl : j = st := by omega
          rw [hst] at h1 h2 h3 h5
          have Hst : Hid (i + s = j) := hst
          clear hst
          obtain ⟨b1, o1, ha, hc⟩ := hvr j (by have := Hn.out; omega)
          subst ha
          have K1 := isSpace_any (line.getD j 0) wo
          rw [h2] at K1
          generalize line.getD j 0 = x at hc K1
          have hjn : ((j : Int) == (n : Int)) = false := beq_eq_false_iff_ne.2 (by omega)
          have hW0 : Hid (WRel wo line wd j (j + k) (.slice (some ⟨wo.heap.size, 0, none⟩) 0 0) j (wo.alloc (.cells #[] 5))) :=
            ⟨n + 1, [], wd, k, ob_new wo, (Below.refl _ _).alloc (Nat.le_refl _) _, Nat.le_refl _, by simp, by simp, by rw [Hn.out]; exact h3, rfl, rfl⟩
          have H4 : Hid (R = wd :: R') := h4
          have H5 : Hid (swf (line.length + 1) f' (line.drop (j + k)) = some R') := by rw [Hn.out]; exact h5
          clear h2 h3 h4 h5
          go_wp2_with fail
          refine K1.mono ?_
          rintro e w5 ⟨rfl, hw5⟩
          cases hw5
          clear K1 hc
          go_wp2
          go_loopw [5, 6] (fun t v wr => ∃ t' : Nat, t = .int .i64 t' ∧ t' ≤ n ∧ WRel wo line wd j (j + k) v t' wr) (fun t _ _ => n - (intOf t).toNat)
          case atStart => exact ⟨j, rfl, by omega, hW0.out⟩
          case round =>
            clear hW0
            obtain ⟨t, rfl, htn, hWR⟩ := hrel
            have HWR : Hid (WRel wo line wd j (j + k) u6 t wr) := hWR
            clear hWR
            obtain ⟨f2, wd0, rw2, k2, hOb, hB2, g1, g2, g3, hsw, hwd, hstop⟩ := HWR.out
            have hvr2 := (hv.below hBel).below hB2
            clear HWR
            by_cases hlt3 : t < n
            · obtain ⟨b2, o2, ha2, hc2⟩ := hvr2 t (by have := Hn.out; omega)
              cases ha2
              have K1 := isSpace_any (line.getD t 0) wr
              cases hwt : wsB (line.getD t 0)
              · rw [hwt] at K1
                have hbs : wo.heap.size ≤ wr.heap.size := hB2.size
                cases hqt : qtB (line.getD t 0)
                · obtain ⟨f3, rw3, k3, e1, e2, e3⟩ := sww_char hsw (by have := Hn.out; omega) hwt hqt
                  have h34 : (line.getD t 0 != 34) = true := by
                    have : ¬ (line.getD t 0 = 34 ∨ line.getD t 0 = 39) := of_decide_eq_false hqt
                    rw [bne_iff_ne]; omega
                  have h39 : (line.getD t 0 != 39) = true := by
                    have : ¬ (line.getD t 0 = 34 ∨ line.getD t 0 = 39) := of_decide_eq_false hqt
                    rw [bne_iff_ne]; omega
                  have HNX : Hid (∀ v' w', Ob wo.heap.size w' v' (wd0 ++ [line.getD t 0]) → Kept wr u6 w' v' → WRel wo line wd j (j + k) v' (t + 1) w') := by
                    intro v' w' hO' hK'
                    exact ⟨f3, wd0 ++ [line.getD t 0], rw3, k3, hO', hB2.trans (hK'.below hOb hbs), by omega, by simp; omega, Nat.lt_of_lt_of_le g3 hK'.1.size, e3, by rw [hwd, e1]; simp, by omega⟩
                  generalize line.getD t 0 = y at hc2 K1 h34 h39 HNX
                  have hbd : wd0.length + 1 ≤ 1099511627776 := by omega
                  clear hwt hqt hsw e1 e2 e3 hwd hstop
                  go_wp2_with fail
                  refine K1.mono ?_
                  rintro e w5 ⟨rfl, hw5⟩
                  cases hw5
                  go_wp2_with (at_builtin; refine wpList_appN wr #[.int .u8 y] rfl _ _ rfl wo.heap.size u6 wd0 rfl hOb hbs [y] rfl 1 1 rfl (by intro h; cases h) rfl hbd ?_)
                  intro v' w' hO' hK'
                  have HNX' := hidE (HNX.out v' w' hO' hK')
                  clear HNX hO' hK'
                  go_wp2
                  go_roundw
                  case rel => exact ⟨t + 1, by go_num, by omega, HNX'.out⟩
                  case measure => simp [intOf]; omega
                · obtain ⟨kq, e1, e2, e3⟩ := sww_quote hsw (by have := Hn.out; omega) hwt hqt
                  have hb1l : b1 < w.heap.size := by
                    obtain ⟨b9, o9, ha9, _, hb9⟩ := hv.lt t (by have := Hn.out; omega)
                    cases ha9
                    exact hb9
                  have hne : ∀ b' off, some (⟨b1, o1, none⟩ : Addr) = some ⟨b', off, none⟩ → some b' ≠ u6.ownBlock := by
                    intro b' off hh e
                    cases hh
                    have h1 := (World.ownsRow.lt hOb b1 e.symm).1
                    have h2 := hBel.size
                    omega
                  have H20 := quoted_any wo.heap.size u6 (some ⟨b1, o1, none⟩) n c t wd0 line wr hOb hbs hvr2 Hn.out hne hlt3 (by omega)
                  have hsp := aq_span _ _ e1
                  obtain ⟨q1, q2, -, q4, -⟩ := hsp
                  rw [List.length_drop, Hn.out] at q2
                  have HE1 := hidE e1
                  have HE3 := hidE e3
                  have HNX : Hid (∀ v' w', Ob wo.heap.size w' v' (wd0 ++ rw2) → Kept wr u6 w' v' → WRel wo line wd j (j + k) v' (t + 1 + kq) w') := by
                    intro v' w' hO' hK'
                    exact ⟨1, wd0 ++ rw2, [], 0, hO', hB2.trans (hK'.below hOb hbs), by omega, by rw [List.length_append]; omega, Nat.lt_of_lt_of_le g3 hK'.1.size, sww_at_end e3, by rw [hwd]; simp, by omega⟩
                  have hqv : line.getD t 0 = 34 ∨ line.getD t 0 = 39 := of_decide_eq_true hqt
                  have hTn : t + 1 + kq ≤ n := by omega
                  clear hqt hsw e2 hwd hstop hwt e1
                  by_cases hTlt : t + 1 + kq < n
                  · have hwT : wsB (line.getD (t + 1 + kq) 0) = true := by
                      rcases e3 with h | h
                      · rw [Hn.out] at h; omega
                      · exact h
                    clear e3
                    obtain ⟨b8, o8, ha8, hc8⟩ := hvr2 (t + 1 + kq) (by have := Hn.out; omega)
                    cases ha8
                    have K3 := fun w => isSpace_any (line.getD (t + 1 + kq) 0) w
                    rw [hwT] at K3
                    have K3' := hidE K3
                    generalize line.getD (t + 1 + kq) 0 = z at hc8 K3'
                    clear K3 hwT
                    rcases hqv with h34 | h34
                    all_goals
                      rw [h34] at hc2 K1
                      clear h34
                      go_wp2_with fail
                      refine K1.mono ?_
                      rintro e w5 ⟨rfl, hw5⟩
                      cases hw5
                      go_wp2_with fail
                      refine H20.mono ?_
                      intro e w6 hP
                      rcases hP with ⟨p1, -, -⟩ | ⟨bs', k', v', p1, rfl, hO', hK'⟩
                      · rw [HE1.out] at p1; cases p1
                      · rw [HE1.out] at p1
                        simp only [Option.some.injEq, Prod.mk.injEq] at p1
                        obtain ⟨rfl, rfl⟩ := p1
                        have HNX' := hidE (HNX.out v' w6 hO' hK')
                        have hc9 := hK'.1.cell hc8 (hne b1 o1 rfl)
                        clear HNX hO' hK' hc8 hc2 H20 K1 hvr2
                        go_wp2_with fail
                        refine (K3'.out w6).mono ?_
                        rintro e w7 ⟨rfl, hw7⟩
                        cases hw7
                        go_wp2
                        go_roundw
                        case rel => exact ⟨t + 1 + kq, rfl, hTn, HNX'.out⟩
                        case measure => simp [intOf]; omega
                  · have hTE : t + 1 + kq = n := by omega
                    clear e3
                    rcases hqv with h34 | h34
                    all_goals
                      rw [h34] at hc2 K1
                      clear h34
                      go_wp2_with fail
                      refine K1.mono ?_
                      rintro e w5 ⟨rfl, hw5⟩
                      cases hw5
                      go_wp2_with fail
                      refine H20.mono ?_
                      intro e w6 hP
                      rcases hP with ⟨p1, -, -⟩ | ⟨bs', k', v', p1, rfl, hO', hK'⟩
                      · rw [HE1.out] at p1; cases p1
                      · rw [HE1.out] at p1
                        simp only [Option.some.injEq, Prod.mk.injEq] at p1
                        obtain ⟨rfl, rfl⟩ := p1
                        have HNX' := hidE (HNX.out v' w6 hO' hK')
                        have HTE := hidE hTE
                        clear HNX hO' hK' hc2 H20 K1 hvr2 hTE
                        go_wp2
                        go_roundw
                        case rel => exact ⟨t + 1 + kq, rfl, hTn, HNX'.out⟩
                        case measure => simp [intOf]; omega
              · rw [hwt] at K1
                have hend := sww_end hsw (Or.inr hwt)
                obtain ⟨rfl, rfl⟩ := hend
                obtain rfl : wd = wd0 := by rw [hwd, List.append_nil]
                have HST : Hid (j + k = t) := by have := hstop; unfold Hid; omega
                clear hsw hwd hstop
                obtain ⟨av, cv, hvE, hlv, hcv, hnv, hvv, hfar⟩ := hOb.shape
                obtain ⟨vs, hvs, hall⟩ := hWO.below hB2
                have hvlt : ∀ t, u4.ownBlock = some t → t < wo.heap.size := by
                  obtain ⟨vs0, hvs0, _⟩ := hWO
                  exact fun t ht => (World.ownsRow.lt hvs0 t ht).2
                have hvx : VwX wr av wd u4.ownBlock := hvv.vwx (fun b off hh e => by have h1 := hvlt b e.symm; have h2 := (hfar b off hh).1; omega)
                clear hfar hvlt hvv hOb
                subst hvE
                have HH : Hid (∀ t, t < A.length → ∃ a c, vs[t]? = some (.slice a (A.getD t []).length c) ∧ (a = none → c = 0) ∧ VwX wr a (A.getD t []) u4.ownBlock) := hall
                clear hall
                have hbs : w.heap.size ≤ wr.heap.size := Nat.le_trans hBel.size hB2.size
                generalize line.getD t 0 = y at hc2 K1
                clear hwt
                go_wp2_with fail
                refine K1.mono ?_
                rintro e w5 ⟨rfl, hw5⟩
                cases hw5
                clear K1 hc2
                go_wp2_with (at_builtin; refine wpList_append_own_at (wr.alloc (.cells #[.slice av wd.length cv] 22)) rfl _ _ 31 rfl w.heap.size 22 i0 (.slice none 0 0) 1 24 Try.underlying31 hi hz0 hz1 hz2 rfl (by decide) u4 A.length vs rfl (hvs.alloc _) ⟨wr.heap.size, 0, none⟩ 1 1 [.slice av wd.length cv] rfl rfl (cell_one_new _ _ _) (by simp [Value.oneCell']) (by unfold maxLen; omega) (by omega) (by simp; omega) ?_)
                intro v' w' ho' hg _ hat
                have hpush := WOwn.push hvs HH.out hvx hnv ho' hg hat
                have hbel' : Below w.heap.size w w' := (hBel.trans (hB2.mono hBel.size)).trans ((Below.refl _ _).alloc hbs _ |>.grown hg (by simp; omega) (fun t ht => (World.ownsRow.lt hvs t ht).1))
                have HSR : Hid (SRel w line ws v' t w') := ⟨f', A ++ [wd], R', hpush, hbel', by rw [List.length_append]; simp; have := HST.out; omega, by rw [← HST.out]; exact H5.out, by rw [HW.out, H4.out]; simp⟩
                clear hpush hbel' ho' hg hat hvs hvx
                go_wp2
                go_roundw
                case rel => exact ⟨t, rfl, htn, HSR.out⟩
                case measure => have := HST.out; have := Hst.out; simp [intOf]; omega
            · have htE : line.length ≤ t := by have := Hn.out; omega
              have hend := sww_end hsw (Or.inl htE)
              obtain ⟨rfl, rfl⟩ := hend
              obtain rfl : wd = wd0 := by rw [hwd, List.append_nil]
              have HST : Hid (j + k = t) := by have := hstop; unfold Hid; omega
              clear hsw hwd hstop
              obtain ⟨av, cv, hvE, hlv, hcv, hnv, hvv, hfar⟩ := hOb.shape
              obtain ⟨vs, hvs, hall⟩ := hWO.below hB2
              have hvlt : ∀ t, u4.ownBlock = some t → t < wo.heap.size := by
                obtain ⟨vs0, hvs0, _⟩ := hWO
                exact fun t ht => (World.ownsRow.lt hvs0 t ht).2
              have hvx : VwX wr av wd u4.ownBlock := hvv.vwx (fun b off hh e => by have h1 := hvlt b e.symm; have h2 := (hfar b off hh).1; omega)
              clear hfar hvlt hvv hOb
              subst hvE
              have HH : Hid (∀ t, t < A.length → ∃ a c, vs[t]? = some (.slice a (A.getD t []).length c) ∧ (a = none → c = 0) ∧ VwX wr a (A.getD t []) u4.ownBlock) := hall
              clear hall
              have hbs : w.heap.size ≤ wr.heap.size := Nat.le_trans hBel.size hB2.size
              go_wp2_with (at_builtin; refine wpList_append_own_at (wr.alloc (.cells #[.slice av wd.length cv] 22)) rfl _ _ 31 rfl w.heap.size 22 i0 (.slice none 0 0) 1 24 Try.underlying31 hi hz0 hz1 hz2 rfl (by decide) u4 A.length vs rfl (hvs.alloc _) ⟨wr.heap.size, 0, none⟩ 1 1 [.slice av wd.length cv] rfl rfl (cell_one_new _ _ _) (by simp [Value.oneCell']) (by unfold maxLen; omega) (by omega) (by simp; omega) ?_)
              intro v' w' ho' hg _ hat
              have hpush := WOwn.push hvs HH.out hvx hnv ho' hg hat
              have hbel' : Below w.heap.size w w' := (hBel.trans (hB2.mono hBel.size)).trans ((Below.refl _ _).alloc hbs _ |>.grown hg (by simp; omega) (fun t ht => (World.ownsRow.lt hvs t ht).1))
              have HSR : Hid (SRel w line ws v' t w') := ⟨f', A ++ [wd], R', hpush, hbel', by rw [List.length_append]; simp; have := HST.out; omega, by rw [← HST.out]; exact H5.out, by rw [HW.out, H4.out]; simp⟩
              clear hpush hbel' ho' hg hat hvs hvx
              go_wp2
              go_roundw
              case rel => exact ⟨t, rfl, htn, HSR.out⟩
              case measure => have := HST.out; have := Hst.out; simp [intOf]; omega

end Go.Proofs.Qxb6606283a
