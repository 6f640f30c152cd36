/-
  SEAT b6606283a: THE WALK OF 'FnSplitWordsInvertsQuotingAndJoining'.
-/
import Derived.Test.Qxb6606283aSplitLine
import Derived.Deep.DeepCutAuto
namespace Go.Proofs.Qxb6606283a.fnSplitWordsInvertsQuotingAndJoining
open Go.RowKit
set_option linter.unusedVariables false

theorem mode_bytes {mode : List Int} (h : Bytes mode) (k : Nat) : 0 ≤ modeI mode k ∧ modeI mode k ≤ 255 := by
  unfold modeI
  exact h.at _

theorem lineTo_zero (ws : List (List Int)) (mode : List Int) {n : Nat} (h : ws.length = n) : lineTo ws mode 0 = edgeI mode n := by simp [lineTo, h]

/-- The call of 'b1AppendWord' in a round. -/
theorem word_at {w2 wr : World} {aw am : Option Addr} {ws : List (List Int)} {mode : List Int} {v : Value} {zs : List Int} {t m : Nat}
    (hB : Below w2.heap.size w2 wr) (hO : Ob w2.heap.size wr v zs) (hC : WsC w2 aw ws) (hM : Vw .u8 w2 am mode) (hMf : ∀ b off, am = some ⟨b, off, none⟩ → b < w2.heap.size) (hm : mode.length = m)
    (ht : t < ws.length) (hwb : Bytes (ws.getD t [])) (hmb : Bytes mode) (hL : (ws.getD t []).length ≤ 1048576) (hz : zs.length ≤ 8388608) (hmm : m ≤ 1048576) :
    ∃ b off a', aw = some ⟨b, off, none⟩ ∧ wr.cell? ⟨b, off + t, none⟩ = some (.slice a' (ws.getD t []).length (ws.getD t []).length) ∧
      (m = 0 → Calls Try.prog 16 #[v, .slice a' (ws.getD t []).length (ws.getD t []).length, .int .u8 (modeI mode t), .slice am m m] wr fun e w' => AppPost w2.heap.size wr v zs (encI ws mode t) e w') ∧
      (0 < m → ∃ b2 o2, am = some ⟨b2, o2, none⟩ ∧ Calls Try.prog 16 #[v, .slice a' (ws.getD t []).length (ws.getD t []).length, .int .u8 (modeI mode t), .slice (some ⟨b2, o2 + (t + 1) % m, none⟩) (m - (t + 1) % m) (m - (t + 1) % m)] wr fun e w' => AppPost w2.heap.size wr v zs (encI ws mode t) e w') := by
  obtain ⟨b, off, a', ha, hc, hn, hv, hl⟩ := hC t ht
  have hne : ∀ (a : Option Addr), (∀ b' off', a = some ⟨b', off', none⟩ → b' < w2.heap.size) → ∀ b' off', a = some ⟨b', off', none⟩ → some b' ≠ v.ownBlock := by
    intro a h b' off' h' e
    have h1 := h b' off' h'
    have h2 := (World.ownsRow.lt hO b' e.symm).1
    omega
  have hlt : ∀ (a : Option Addr), (∀ b' off', a = some ⟨b', off', none⟩ → b' < w2.heap.size) → ∀ b' off', a = some ⟨b', off', none⟩ → b' < wr.heap.size := fun a h b' off' h' => Nat.lt_of_lt_of_le (h b' off' h') hB.size
  refine ⟨b, off, a', ha, (hB.cell (block_lt_of_cell hc)).trans hc, ?_, ?_⟩
  · intro h0
    have hs : styleI mode t = mode := by
      obtain rfl : mode = [] := List.eq_nil_of_length_eq_zero (by omega)
      simp [styleI]
    have hE : encI ws mode t = wordEnc (ws.getD t []) (modeI mode t) mode := by unfold encI; rw [hs]
    rw [hE]
    exact word_any w2.heap.size v a' am _ _ m m (modeI mode t) zs (ws.getD t []) mode wr hO hB.size (hv.below hB) (hM.below hB) rfl hm (hne a' hl) (hne am hMf) (hlt a' hl) (hlt am hMf) hn (Nat.le_refl _) (by unfold maxLen; omega) hwb hmb (mode_bytes hmb t) (by omega) hL (by omega)
  · intro h0
    obtain ⟨b2, o2, ha2, _⟩ := hM 0 (by omega)
    refine ⟨b2, o2, ha2, ?_⟩
    subst ha2
    have hdv := (hM.below hB).drop ((t + 1) % m)
    have hf : ∀ b' off', some (⟨b2, o2 + (t + 1) % m, none⟩ : Addr) = some ⟨b', off', none⟩ → b' < w2.heap.size := by
      intro b' off' h'
      cases h'
      exact hMf b2 o2 rfl
    have hE : encI ws mode t = wordEnc (ws.getD t []) (modeI mode t) (mode.drop ((t + 1) % m)) := by unfold encI styleI; rw [hm]
    rw [hE]
    exact word_any w2.heap.size v a' _ _ _ _ _ (modeI mode t) zs (ws.getD t []) (mode.drop ((t + 1) % m)) wr hO hB.size (hv.below hB) hdv rfl (by rw [List.length_drop, hm]) (hne a' hl) (hne _ hf) (hlt a' hl) (hlt _ hf) hn (Nat.le_refl _) (by unfold maxLen; omega) hwb (fun x hx => hmb x (List.mem_of_mem_drop hx)) (mode_bytes hmb t) (by omega) hL (by omega)

set_option maxHeartbeats 1000000 in
set_option maxRecDepth 20000 in
theorem walk_out (a am : Option Addr) (n c m cm : Nat) (ws : List (List Int)) (w : World) (hv : WsV w a ws) (hn : ws.length = n) (hb : n ≤ maxLen) (hm : m ≤ maxLen) (h : ¬ (n ≤ 65536 ∧ m ≤ 1048576)) :
    Calls Try.prog 5 #[.slice a n c, .slice am m cm] w fun e w' => e = .returned (.bool true) ∧ Below w.heap.size w w' := by
  have H := hidE (bytes13_any a am n c m cm ws w hv hn hb hm)
  unfold maxLen at hb hm
  clear hv hn
  by_cases h0 : n ≤ 65536
  · have h1 : ¬ m ≤ 1048576 := fun h1 => h ⟨h0, h1⟩
    clear h
    go_enter Try.func5, Try.ntmps5
    go_wp2_with fail
    refine H.out.mono ?_
    rintro e w' ⟨r, rfl, hw'⟩
    cases hw'
    cases r
    all_goals
      go_wp2
      go_ret
      exact ⟨rfl, Below.refl _ _⟩
  · clear h
    go_enter Try.func5, Try.ntmps5
    go_wp2_with fail
    refine H.out.mono ?_
    rintro e w' ⟨r, rfl, hw'⟩
    cases hw'
    cases r
    all_goals
      go_wp2
      go_ret
      exact ⟨rfl, Below.refl _ _⟩

set_option maxHeartbeats 2000000 in
set_option maxRecDepth 20000 in
theorem walk_in (a am : Option Addr) (n c m cm : Nat) (ws : List (List Int)) (mode : List Int) (w : World) (hv : WsV w a ws) (hM : Vw .u8 w am mode) (hn : ws.length = n) (hm : mode.length = m)
    (hwm : ∀ t, t < ws.length → (ws.getD t []).length ≤ maxLen) (hwb : ∀ t, t < ws.length → Bytes (ws.getD t [])) (hmb : Bytes mode) (hb : n ≤ 65536) (hmm : m ≤ 1048576) :
    Calls Try.prog 5 #[.slice a n c, .slice am m cm] w fun e w' => e = .returned (.bool true) ∧ Below w.heap.size w w' := by
  have H := hidE (bytes13_any a am n c m cm ws w hv hn (by unfold maxLen; omega) (by unfold maxLen; omega))
  have Hn := hidE hn
  have Hm := hidE hm
  have HWM := hidE hwm
  have HWB := hidE hwb
  have HMB := hidE hmb
  have hsp := wsC_at
  clear hn hm hwm hwb hmb
  go_enter Try.func5, Try.ntmps5
  go_wp2_with fail
  refine H.out.mono ?_
  rintro e w' ⟨r, rfl, hw'⟩
  cases hw'
  clear H
  cases r
  · go_wp2
    go_ret
    exact ⟨rfl, Below.refl _ _⟩
  · go_wp2
    go_loop [5, 6] (fun z i => ∃ (k : Nat) (q : Nat), k ≤ n ∧ i = .int .i64 k ∧ z = .int .i64 q ∧ q = m + 8 * n + sumTo ws k ∧ (0 < k → q ≤ 1048576)) (fun _ i => n - (intOf i).toNat)
    case atStart => exact ⟨0, m + 8 * n, Nat.zero_le _, rfl, by go_num, rfl, fun h => by omega⟩
    case round =>
      obtain ⟨k, q, hk, rfl, rfl, hq, hq2⟩ := hrel
      have HQ := hidE hq
      have hqb : q ≤ 1572864 := by
        rcases Nat.eq_zero_or_pos k with h | h
        · subst h; simp [sumTo] at hq; omega
        · have := hq2 h; omega
      clear hq hq2
      by_cases hlt : k < n
      · obtain ⟨b, off, a', c', hae, hc, hcn, hvw⟩ := hv k (by have := Hn.out; omega)
        subst hae
        have hLm := HWM.out k (by have := Hn.out; omega)
        unfold maxLen at hLm
        have HS : Hid (sumTo ws (k + 1) = sumTo ws k + (ws.getD k []).length) := rfl
        clear hvw
        generalize (ws.getD k []).length = L at hc HS hLm
        by_cases hL : L ≤ 1048576
        · by_cases hq3 : q + L ≤ 1048576
          · go_wp2
            go_round
            case rel => exact ⟨k + 1, q + L, by omega, by go_num, by go_num, by have := HQ.out; have := HS.out; omega, fun _ => hq3⟩
            case measure => simp [intOf]; omega
          · go_wp2
            go_ret
            exact ⟨rfl, Below.refl _ _⟩
        · go_wp2
          go_ret
          exact ⟨rfl, Below.refl _ _⟩
      · obtain rfl : n = k := by omega
        clear hlt hk
        by_cases hq3 : q ≤ 1048576
        · have hsum : m + 8 * n + sumTo ws n ≤ 1048576 := by have := HQ.out; omega
          have HSum := hidE hsum
          have H14 := hidE (cloneWords_any a n c ws w hv Hn.out (by omega) (fun t ht => by have := sumTo_at ws (t := t) (k := n) (by have := Hn.out; omega); have := HSum.out; omega))
          clear hsum
          go_wp2_with fail
          refine H14.out.mono ?_
          rintro e w1 ⟨aw, rfl, hC1, hb1⟩
          have H7 := hidE (clone_any am m cm mode w1 (hM.below hb1) Hm.out (by omega))
          clear H14 hM
          go_wp2_with fail
          refine H7.out.mono ?_
          rintro e w2 ⟨am2, rfl, hO2, hb2⟩
          clear H7
          have HC := hidE (hC1.below hb2)
          have HM2 := hidE hO2.vw
          have HMf := hidE (fun b off h => (hO2.far b off h).2)
          have HBW : Hid (Below w.heap.size w w2) := hb1.trans (hb2.mono hb1.size)
          clear hC1 hO2 hb1 hb2 hv
          have K15 := hidE (fun (wx : World) (j : Nat) (z : Int) (hz : z = (j : Int)) (hB : Below w2.heap.size w2 wx) (hj : j ≤ 1048576) => hz ▸ modeAt_any am2 m m j mode wx (HM2.out.below hB) Hm.out (by omega) (by omega))
          have hBa : Below w2.heap.size w2 (w2.alloc (.cells #[] 5)) := (Below.refl _ _).alloc (Nat.le_refl _) _
          have hOa := ob_new w2
          have HBa := hidE hBa
          have HOa := hidE hOa
          clear hBa hOa
          go_wp2_with fail
          generalize w2.alloc (.cells #[] 5) = wa at HBa HOa ⊢
          refine (K15.out _ n _ rfl HBa.out (by omega)).mono ?_
          rintro e w5 ⟨rfl, hw5⟩
          cases hw5
          generalize hx : modeI mode n = x
          have hx0 : 0 ≤ x ∧ x ≤ 255 := by rw [← hx]; exact mode_bytes HMB.out n
          obtain ⟨hx0, hx1⟩ := hx0
          have HX := hidE hx
          clear hx
          go_upto_if 67 with fail
          go_cut [8] (fun v wc => Ob w2.heap.size wc v (edgeI mode n) ∧ Below w2.heap.size w2 wc)
          case first =>
            by_cases h1 : x % 2 = 1
            · have HE : Hid (edgeI mode n = [wsC (modeI mode (n + 1) % 6).toNat]) := by unfold Hid edgeI; rw [HX.out, if_pos h1]
              have h1b : (x % 2 == 1) = true := beq_iff_eq.2 h1
              clear h1
              go_wp2_with fail
              refine (K15.out _ (n + 1) _ (by omega) HBa.out (by omega)).mono ?_
              rintro e w5 ⟨rfl, hw5⟩
              cases hw5
              generalize hy : modeI mode (n + 1) = y at HE ⊢
              have hy0 : 0 ≤ y ∧ y ≤ 255 := by rw [← hy]; exact mode_bytes HMB.out (n + 1)
              obtain ⟨hy0, hy1⟩ := hy0
              clear hy
              go_wp2_with (at_builtin; go_must (refine wpList_appN wa #[.int .u8 (wsC (y % 6).toNat)] rfl _ _ rfl w2.heap.size (.slice (some ⟨w2.heap.size, 0, none⟩) 0 0) [] rfl HOa.out HBa.out.size [wsC (y % 6).toNat] rfl 1 1 rfl (by intro h; cases h) rfl (by simp) ?_))
              intro v' w' hO' hK'
              have hK := hK'.below HOa.out HBa.out.size
              clear hK'
              go_wp2
              go_meet
              case rel => exact ⟨by rw [HE.out]; exact hO', HBa.out.trans hK⟩
            · have HE : Hid (edgeI mode n = []) := by unfold Hid edgeI; rw [HX.out, if_neg h1]
              have h1b : (x % 2 == 1) = false := beq_eq_false_iff_ne.2 h1
              clear h1
              go_wp2
              go_meet
              case rel => exact ⟨by rw [HE.out]; exact HOa.out, HBa.out⟩
          case rest =>
            obtain ⟨hO, hB⟩ := hcut
            have HO := hidE hO
            have HB := hidE hB
            clear hO hB
            go_wp2
            go_loopw [8, 9] (fun v i wr => ∃ k : Nat, k ≤ n ∧ i = .int .i64 k ∧ Ob w2.heap.size wr v (lineTo ws mode k) ∧ Below w2.heap.size w2 wr) (fun _ i _ => n - (intOf i).toNat)
            case atStart => exact ⟨0, Nat.zero_le _, rfl, by rw [lineTo_zero ws mode Hn.out]; exact HO.out, HB.out⟩
            case round =>
              clear HO HB
              obtain ⟨k, hk, rfl, hO, hB⟩ := hrel
              have HO := hidE hO
              have HB := hidE hB
              clear hO hB
              have HLen : Hid ((lineTo ws mode k).length ≤ 8388000) := by
                have h1 := lineTo_len ws mode k
                have h2 := sumTo_mono ws (j := k) (k := n) hk
                have h3 := HSum.out
                show _ ≤ _
                omega
              by_cases hlt : k < n
              · have ht : k < ws.length := by have := Hn.out; omega
                have hLb : (ws.getD k []).length ≤ 1048576 := by
                  have h1 := sumTo_at ws hlt
                  have h3 := HSum.out
                  omega
                have HW := hidE (fun (wx : World) (v : Value) (zs : List Int) (hB : Below w2.heap.size w2 wx) (hO : Ob w2.heap.size wx v zs) (hz : zs.length ≤ 8388608) => word_at (t := k) hB hO HC.out HM2.out HMf.out Hm.out ht (HWB.out k ht) HMB.out hLb hz hmm)
                have K1 := hidE (K15.out _ k _ rfl HB.out (by omega))
                have hx := mode_bytes HMB.out k
                have HSU := hidE (lineTo_succ ws mode k)
                clear ht
                by_cases hk0 : k = 0
                · have HSep : Hid (lineTo ws mode (k + 1) = lineTo ws mode k ++ encI ws mode k) := by
                    have e : sepI mode k = [] := by rw [hk0]; rfl
                    show _ = _
                    rw [HSU.out, e, List.nil_append]
                  have hk0b : ¬ (0 : Int) < (k : Int) := by omega
                  clear hk0 HSU
                  obtain ⟨b1, o1, a1, haw, hcell, W0, W1⟩ := HW.out _ _ _ HB.out HO.out (by have := HLen.out; omega)
                  have HFin : Hid (∀ e w', AppPost w2.heap.size wr u8 (lineTo ws mode k) (encI ws mode k) e w' → ∃ v, e = .returned v ∧ Ob w2.heap.size w' v (lineTo ws mode (k + 1)) ∧ Below w2.heap.size w2 w') := by
                    rintro e w' ⟨v, h1, h2, h3⟩
                    exact ⟨v, h1, by rw [HSep.out]; exact h2, HB.out.trans (h3.below HO.out HB.out.size)⟩
                  clear HSep HW
                  subst haw
                  generalize modeI mode k = x at K1 W0 W1 hx
                  obtain ⟨hx0', hx1'⟩ := hx
                  generalize (ws.getD k []).length = L at hcell W0 W1 hLb
                  by_cases hm0 : m = 0
                  · have W := hidE (W0 hm0)
                    have hm0b : ¬ (0 : Int) < (m : Int) := by omega
                    clear W0 W1 hm0
                    go_wp2_with fail
                    refine K1.out.mono ?_
                    rintro e w5 ⟨rfl, hw5⟩
                    cases hw5
                    go_wp2_with fail
                    refine W.out.mono ?_
                    intro e w6 hP
                    obtain ⟨v6, rfl, hO6, hB6⟩ := HFin.out e w6 hP
                    clear hP
                    have HO6 := hidE hO6
                    have HB6 := hidE hB6
                    clear hO6 hB6 hcell
                    go_wp2
                    go_roundw
                    case rel => exact ⟨k + 1, by omega, by go_num, HO6.out, HB6.out⟩
                    case measure => simp [intOf]; omega
                  · have hm0b : (0 : Int) < (m : Int) := by omega
                    have HM0 := hidE (show 0 < m by omega)
                    obtain ⟨b2, o2, ham, W⟩ := W1 HM0.out
                    have W' := hidE W
                    clear W W0 W1 hm0
                    subst ham
                    have hjm : (k + 1) % m < m := Nat.mod_lt _ HM0.out
                    have HJ := hidE (show 0 ≤ ((k : Int) + 1) % (m : Int) ∧ ((k : Int) + 1) % (m : Int) ≤ (m : Int) from ⟨Int.emod_nonneg _ (by omega), Int.le_of_lt (Int.emod_lt_of_pos _ hm0b)⟩)
                    go_wp2_with fail
                    refine K1.out.mono ?_
                    rintro e w5 ⟨rfl, hw5⟩
                    cases hw5
                    go_wp2_with fail
                    refine W'.out.mono ?_
                    intro e w6 hP
                    obtain ⟨v6, rfl, hO6, hB6⟩ := HFin.out e w6 hP
                    clear hP
                    have HO6 := hidE hO6
                    have HB6 := hidE hB6
                    clear hO6 hB6 hcell
                    go_wp2
                    go_roundw
                    case rel => exact ⟨k + 1, by omega, by go_num, HO6.out, HB6.out⟩
                    case measure => simp [intOf]; omega
                · have HSep : Hid (lineTo ws mode (k + 1) = lineTo ws mode k ++ [wsC (modeI mode k / 4 % 6).toNat] ++ encI ws mode k) := by
                    have e : sepI mode k = [wsC (modeI mode k / 4 % 6).toNat] := by unfold sepI; rw [if_neg hk0]
                    show _ = _
                    rw [HSU.out, e, List.append_assoc]
                  have hk0b : (0 : Int) < (k : Int) := by omega
                  clear hk0 HSU
                  have HFin : Hid (∀ wx v e w', Below w2.heap.size w2 wx → Ob w2.heap.size wx v (lineTo ws mode k ++ [wsC (modeI mode k / 4 % 6).toNat]) → AppPost w2.heap.size wx v (lineTo ws mode k ++ [wsC (modeI mode k / 4 % 6).toNat]) (encI ws mode k) e w' → ∃ v, e = .returned v ∧ Ob w2.heap.size w' v (lineTo ws mode (k + 1)) ∧ Below w2.heap.size w2 w') := by
                    rintro wx vx e w' hBx hOx ⟨v, h1, h2, h3⟩
                    exact ⟨v, h1, by rw [HSep.out]; exact h2, hBx.trans (h3.below hOx hBx.size)⟩
                  clear HSep
                  have hbd : (lineTo ws mode k).length + 1 ≤ 1099511627776 := by have := HLen.out; omega
                  generalize hxE : modeI mode k = x at K1 HFin HW hx
                  clear hxE
                  obtain ⟨hx0', hx1'⟩ := hx
                  by_cases hm0 : m = 0
                  · have HM0 := hidE hm0
                    have hm0b : ¬ (0 : Int) < (m : Int) := by omega
                    clear hm0
                    go_wp2_with fail
                    refine K1.out.mono ?_
                    rintro e w5 ⟨rfl, hw5⟩
                    cases hw5
                    go_wp2_with (at_builtin; go_must (refine wpList_appN wr #[.int .u8 (wsC (x / 4 % 6).toNat)] rfl _ _ rfl w2.heap.size u8 (lineTo ws mode k) rfl HO.out HB.out.size [wsC (x / 4 % 6).toNat] rfl 1 1 rfl (by intro h; cases h) rfl hbd ?_))
                    intro v' w' hO' hK'
                    have hB' := HB.out.trans (hK'.below HO.out HB.out.size)
                    clear hK'
                    obtain ⟨b1, o1, a1, haw, hcell, W0, W1⟩ := HW.out _ _ _ hB' hO' (by have := HLen.out; rw [List.length_append]; simp only [List.length_cons, List.length_nil]; omega)
                    cases haw
                    have W := hidE (W0 HM0.out)
                    have HFin' := hidE (fun e w6 => HFin.out w' v' e w6 hB' hO')
                    clear W0 W1 HFin HW hO'
                    generalize (ws.getD k []).length = L at hcell W hLb
                    go_wp2_with fail
                    refine W.out.mono ?_
                    intro e w6 hP
                    obtain ⟨v6, rfl, hO6, hB6⟩ := HFin'.out e w6 hP
                    clear hP
                    have HO6 := hidE hO6
                    have HB6 := hidE hB6
                    clear hO6 hB6 hcell
                    go_wp2
                    go_roundw
                    case rel => exact ⟨k + 1, by omega, by go_num, HO6.out, HB6.out⟩
                    case measure => simp [intOf]; omega
                  · have HM0 := hidE (show 0 < m by omega)
                    have hm0b : (0 : Int) < (m : Int) := by omega
                    clear hm0
                    go_wp2_with fail
                    refine K1.out.mono ?_
                    rintro e w5 ⟨rfl, hw5⟩
                    cases hw5
                    go_wp2_with (at_builtin; go_must (refine wpList_appN wr #[.int .u8 (wsC (x / 4 % 6).toNat)] rfl _ _ rfl w2.heap.size u8 (lineTo ws mode k) rfl HO.out HB.out.size [wsC (x / 4 % 6).toNat] rfl 1 1 rfl (by intro h; cases h) rfl hbd ?_))
                    intro v' w' hO' hK'
                    have hB' := HB.out.trans (hK'.below HO.out HB.out.size)
                    clear hK'
                    obtain ⟨b1, o1, a1, haw, hcell, W0, W1⟩ := HW.out _ _ _ hB' hO' (by have := HLen.out; rw [List.length_append]; simp only [List.length_cons, List.length_nil]; omega)
                    cases haw
                    obtain ⟨b2, o2, ham, W⟩ := W1 HM0.out
                    cases ham
                    have W' := hidE W
                    have HFin' := hidE (fun e w6 => HFin.out w' v' e w6 hB' hO')
                    clear W W0 W1 HFin HW hO'
                    generalize (ws.getD k []).length = L at hcell W' hLb
                    have hjm : (k + 1) % m < m := Nat.mod_lt _ HM0.out
                    have HJ := hidE (show 0 ≤ ((k : Int) + 1) % (m : Int) ∧ ((k : Int) + 1) % (m : Int) ≤ (m : Int) from ⟨Int.emod_nonneg _ (by omega), Int.le_of_lt (Int.emod_lt_of_pos _ hm0b)⟩)
                    go_wp2_with fail
                    refine W'.out.mono ?_
                    intro e w6 hP
                    obtain ⟨v6, rfl, hO6, hB6⟩ := HFin'.out e w6 hP
                    clear hP
                    have HO6 := hidE hO6
                    have HB6 := hidE hB6
                    clear hO6 hB6 hcell
                    go_wp2
                    go_roundw
                    case rel => exact ⟨k + 1, by omega, by go_num, HO6.out, HB6.out⟩
                    case measure => simp [intOf]; omega
              · obtain rfl : n = k := by omega
                clear hlt hk
                have hbd : (lineTo ws mode n).length + 1 ≤ 1099511627776 := by have := HLen.out; omega
                have HLI : Hid (lineI ws mode = lineTo ws mode n ++ edgeI mode (n + 2)) := by unfold Hid lineI; rw [Hn.out]
                go_wp2_with fail
                refine (K15.out _ (n + 2) _ (by omega) HB.out (by omega)).mono ?_
                rintro e w5 ⟨rfl, hw5⟩
                cases hw5
                generalize hx2 : modeI mode (n + 2) = x2
                have hy : 0 ≤ x2 ∧ x2 ≤ 255 := by rw [← hx2]; exact mode_bytes HMB.out (n + 2)
                obtain ⟨hx20, hx21⟩ := hy
                have HX2 := hidE hx2
                clear hx2
                obtain ⟨wl, hwl⟩ : ∃ wl : World, wl = wr := ⟨_, rfl⟩
                subst hwl
                go_upto_if 120 with fail
                go_cut [8] (fun v wc => Ob w2.heap.size wc v (lineI ws mode) ∧ Below w2.heap.size w2 wc)
                case first =>
                  by_cases h1 : x2 % 2 = 1
                  · have HE : Hid (edgeI mode (n + 2) = [wsC (modeI mode (n + 2 + 1) % 6).toNat]) := by unfold Hid edgeI; rw [HX2.out, if_pos h1]
                    have h1b : (x2 % 2 == 1) = true := beq_iff_eq.2 h1
                    clear h1
                    go_wp2_with fail
                    refine (K15.out _ (n + 2 + 1) _ (by omega) HB.out (by omega)).mono ?_
                    rintro e w5 ⟨rfl, hw5⟩
                    cases hw5
                    generalize hy : modeI mode (n + 2 + 1) = y at HE ⊢
                    have hy0 : 0 ≤ y ∧ y ≤ 255 := by rw [← hy]; exact mode_bytes HMB.out (n + 2 + 1)
                    obtain ⟨hy0, hy1⟩ := hy0
                    clear hy
                    go_wp2_with (at_builtin; go_must (refine wpList_appN wl #[.int .u8 (wsC (y % 6).toNat)] rfl _ _ rfl w2.heap.size u8 (lineTo ws mode n) rfl HO.out HB.out.size [wsC (y % 6).toNat] rfl 1 1 rfl (by intro h; cases h) rfl hbd ?_))
                    intro v' w' hO' hK'
                    have hK := hK'.below HO.out HB.out.size
                    clear hK'
                    go_wp2
                    go_meet
                    case rel => exact ⟨by rw [HLI.out, HE.out]; exact hO', HB.out.trans hK⟩
                  · have HE : Hid (edgeI mode (n + 2) = []) := by unfold Hid edgeI; rw [HX2.out, if_neg h1]
                    have h1b : (x2 % 2 == 1) = false := beq_eq_false_iff_ne.2 h1
                    clear h1
                    go_wp2
                    go_meet
                    case rel => exact ⟨by rw [HLI.out, HE.out, List.append_nil]; exact HO.out, HB.out⟩
                case rest =>
                  obtain ⟨hO3, hB3⟩ := hcut
                  clear HO HB HLI
                  obtain ⟨al, cl, hve, hlc, hcm, hnone, hvl, -⟩ := hO3.shape
                  have hLb : (lineI ws mode).length ≤ 16777216 := by
                    have h1 := lineI_len ws mode
                    have h3 := HSum.out
                    rw [Hn.out] at h1
                    omega
                  have H17 := zzsplit_any al _ cl (lineI ws mode) ws wc hvl rfl hLb (line_split ws mode HWB.out)
                  unfold maxLen at hcm
                  clear hvl hO3
                  subst hve
                  generalize (lineI ws mode).length = N at H17 hlc hLb
                  have H17' := hidE H17
                  have HB3 := hidE hB3
                  clear H17 hB3
                  go_wp2_with fail
                  refine H17'.out.mono ?_
                  rintro e w3 ⟨vg, rfl, hWO, hb3⟩
                  have hB2 : Below w2.heap.size w2 w3 := HB3.out.trans (hb3.mono HB3.out.size)
                  have HBA : Hid (Below w.heap.size w w3) := HBW.out.trans (hB2.mono HBW.out.size)
                  have HC3 := hidE (HC.out.below hB2)
                  obtain ⟨ag, cg, hvg, hVg, hgm⟩ := hWO.shape
                  rw [Hn.out] at hvg
                  subst hvg
                  have HVg := hidE hVg
                  clear hWO hb3 hB2 hVg hgm H17'
                  go_wp2
                  go_loopw [14] (fun i wr => ∃ k : Nat, k ≤ n ∧ i = .int .i64 k ∧ WsV wr ag ws ∧ WsC wr aw ws ∧ Below w.heap.size w wr) (fun i _ => n - (intOf i).toNat)
                  case atStart => exact ⟨0, Nat.zero_le _, rfl, HVg.out, HC3.out, HBA.out⟩
                  case round =>
                    clear HVg HC3 HBA
                    obtain ⟨k, hk, rfl, hVg, hC3, hBA⟩ := hrel
                    have HVg := hidE hVg
                    have HC3 := hidE hC3
                    have HBA := hidE hBA
                    clear hVg hC3 hBA
                    by_cases hlt : k < n
                    · have ht : k < ws.length := by have := Hn.out; omega
                      have hLk : (ws.getD k []).length ≤ 1048576 := by
                        have h1 := sumTo_at ws hlt
                        have h3 := HSum.out
                        omega
                      obtain ⟨b1, o1, a1, c1, hag, hc1, -, hv1⟩ := HVg.out k ht
                      obtain ⟨b2, o2, a2, haw, hc2, -, hv2, -⟩ := HC3.out k ht
                      have K11 := hidE (fun N => same_any a1 a2 _ c1 _ (ws.getD k []).length (ws.getD k []) (ws.getD k []) (wr.drewN N) (hv1.drewN N) (hv2.drewN N) rfl rfl (by omega) (by omega))
                      subst hag haw
                      clear hv1 hv2 ht
                      rw [decide_eq_true rfl] at K11
                      generalize (ws.getD k []).length = L at hc1 hc2 K11 hLk
                      have hk0 : (0 : Int) ≤ (k : Int) := by omega
                      have hk1 : (k : Int) < (n : Int) := by omega
                      go_wp2
                      go_quiet (first | (go_at_call 11; exact Calls.quiet_of (K11.out _)))
                      go_wp2
                      go_roundw
                      case rel => exact ⟨k + 1, by omega, by go_num, HVg.out.drewN _, HC3.out.drewN _, below_drewN HBA.out _⟩
                      case measure => simp [intOf]; omega
                    · obtain rfl : n = k := by omega
                      clear hlt hk
                      go_wp2
                      go_ret
                      exact ⟨rfl, HBA.out⟩
        · go_wp2
          go_ret
          exact ⟨rfl, Below.refl _ _⟩

end Go.Proofs.Qxb6606283a.fnSplitWordsInvertsQuotingAndJoining
