/-
  SEAT b6606283a: THE WALK OF 'b1AppendWord'.
-/
import Derived.Test.Qxb6606283aSplitEnc
namespace Go.Proofs.Qxb6606283a
open Go.RowKit
set_option linter.unusedVariables false

theorem Vw.take {k : IntKind} {w : World} {a : Option Addr} {zs : List Int} (h : Vw k w a zs) (n : Nat) : Vw k w a (zs.take n) := by
  intro i hi
  have hi' : i < zs.length := by simp at hi; omega
  obtain ⟨b, off, ha, hc⟩ := h i hi'
  refine ⟨b, off, ha, ?_⟩
  rw [hc]
  have : i < n := by simp at hi; omega
  simp [List.getD, this]

theorem Vw.drop {k : IntKind} {w : World} {b off : Nat} {zs : List Int} (h : Vw k w (some ⟨b, off, none⟩) zs) (n : Nat) : Vw k w (some ⟨b, off + n, none⟩) (zs.drop n) := by
  intro i hi
  have hi' : n + i < zs.length := by simp at hi; omega
  obtain ⟨b', off', ha, hc⟩ := h (n + i) hi'
  cases ha
  refine ⟨b, off + n, rfl, ?_⟩
  rw [Nat.add_assoc, hc]
  simp [List.getD]

theorem kept_ne {w w' : World} {v v' : Value} {a : Option Addr} (hK : Kept w v w' v') (h1 : ∀ b off, a = some ⟨b, off, none⟩ → some b ≠ v.ownBlock) (h2 : ∀ b off, a = some ⟨b, off, none⟩ → b < w.heap.size) :
    ∀ b off, a = some ⟨b, off, none⟩ → some b ≠ v'.ownBlock := by
  intro b off h e
  rcases hK.2 with hk | ⟨t, hk, ht⟩
  · exact h1 b off h (e.trans hk)
  · rw [hk] at e
    cases e
    have := h2 b off h
    omega

theorem hidE {p : Prop} (h : p) : Hid p := h

theorem Addr.add_zero' (x : Addr) : x.add 0 = x := by simp [Addr.add]

set_option maxHeartbeats 2000000 in
set_option maxRecDepth 20000 in
theorem word_any (base : Nat) (v0 : Value) (ap asx : Option Addr) (n cp s cs : Nat) (m : Int) (zs p style : List Int) (w : World) (ho : Ob base w v0 zs) (hbase : base ≤ w.heap.size)
    (hv : Vw .u8 w ap p) (hw : Vw .u8 w asx style) (hn : p.length = n) (hs : style.length = s) (hne1 : ∀ b off, ap = some ⟨b, off, none⟩ → some b ≠ v0.ownBlock) (hne2 : ∀ b off, asx = some ⟨b, off, none⟩ → some b ≠ v0.ownBlock)
    (hlt1 : ∀ b off, ap = some ⟨b, off, none⟩ → b < w.heap.size) (hlt2 : ∀ b off, asx = some ⟨b, off, none⟩ → b < w.heap.size)
    (hcp : ap = none → cp = 0) (hncp : n ≤ cp) (hcpm : cp ≤ maxLen) (hp : Bytes p) (hst : Bytes style) (hm : 0 ≤ m ∧ m ≤ 255) (hb : zs.length + 4 * n ≤ 1073741824 - 4194304) (hbn : n ≤ 1048576) (hb2 : s ≤ 1073741824) :
    Calls Try.prog 16 #[v0, .slice ap n cp, .int .u8 m, .slice asx s cs] w fun e w' => AppPost base w v0 zs (wordEnc p m style) e w' := by
  unfold maxLen at hcpm
  obtain ⟨hm0, hm1⟩ := hm
  have H8 := dq_any base v0 ap asx n cp s cs zs p style w ho hbase hv hw hn hs hne1 hne2 hp hst (by omega) hb2
  have Hn : Hid (p.length = n) := hn
  have Hs : Hid (style.length = s) := hs
  have HN1 : Hid (∀ b off, ap = some ⟨b, off, none⟩ → some b ≠ v0.ownBlock) := hne1
  have HN2 : Hid (∀ b off, asx = some ⟨b, off, none⟩ → some b ≠ v0.ownBlock) := hne2
  have HL1 : Hid (∀ b off, ap = some ⟨b, off, none⟩ → b < w.heap.size) := hlt1
  have HL2 : Hid (∀ b off, asx = some ⟨b, off, none⟩ → b < w.heap.size) := hlt2
  clear hne1 hne2 hn hs hlt1 hlt2
  rcases (show m % 3 = 0 ∨ m % 3 = 1 ∨ m % 3 = 2 from by omega) with h3 | h3 | h3
  · have HE : Hid (wordEnc p m style = dq p style) := by unfold Hid wordEnc; rw [if_neg (by omega), if_neg (by omega)]
    go_enter Try.func16, Try.ntmps16
    go_wp2_with fail
    refine H8.mono ?_
    rintro e w' ⟨v', rfl, hO', hK'⟩
    go_wp2
    go_ret
    exact ⟨v', rfl, by rw [HE.out]; exact hO', hK'⟩
  · have H21 := sq_any base v0 ap n cp zs p w ho hbase hv Hn.out HN1.out (by omega)
    by_cases hn0 : n = 0
    · have HE : Hid (wordEnc p m style = sq p) := by
        unfold Hid wordEnc
        rw [if_pos ⟨h3, Or.inl (List.eq_nil_of_length_eq_zero (by rw [Hn.out]; exact hn0))⟩]
      have hn0b : ((n : Int) == 0) = true := beq_iff_eq.2 (by omega)
      clear hn0
      go_enter Try.func16, Try.ntmps16
      go_wp2_with fail
      refine H21.mono ?_
      rintro e w' ⟨v', rfl, hO', hK'⟩
      go_wp2
      go_ret
      exact ⟨v', rfl, by rw [HE.out]; exact hO', hK'⟩
    · have hn0b : ((n : Int) == 0) = false := beq_eq_false_iff_ne.2 (by omega)
      obtain ⟨n', rfl⟩ : ∃ n', n = n' + 1 := ⟨n - 1, by omega⟩
      obtain ⟨b1, o1, ha, hc⟩ := hv n' (by have := Hn.out; omega)
      subst ha
      by_cases h92 : p.getD n' 0 = 92
      · have HE : Hid (wordEnc p m style = dq p style) := by
          unfold Hid wordEnc
          rw [if_neg, if_neg (by omega)]
          rintro ⟨_, h | h⟩
          · have := Hn.out; rw [h] at this; simp at this
          · rw [Hn.out] at h; exact h h92
        rw [h92] at hc
        clear h92 hn0
        go_enter Try.func16, Try.ntmps16
        go_wp2_with fail
        refine H8.mono ?_
        rintro e w' ⟨v', rfl, hO', hK'⟩
        go_wp2
        go_ret
        exact ⟨v', rfl, by rw [HE.out]; exact hO', hK'⟩
      · have HE : Hid (wordEnc p m style = sq p) := by
          unfold Hid wordEnc
          rw [if_pos ⟨h3, Or.inr (by rw [Hn.out]; exact h92)⟩]
        have h92b : (p.getD n' 0 != 92) = true := by simpa using h92
        generalize p.getD n' 0 = x at hc h92b
        clear h92 hn0
        go_enter Try.func16, Try.ntmps16
        go_wp2_with fail
        refine H21.mono ?_
        rintro e w' ⟨v', rfl, hO', hK'⟩
        go_wp2
        go_ret
        exact ⟨v', rfl, by rw [HE.out]; exact hO', hK'⟩
  · have hbl := bareN_le p
    rw [Hn.out] at hbl
    go_enter Try.func16, Try.ntmps16
    go_wp2
    have H3 : Hid (m % 3 = 2) := h3
    clear h3
    go_loop [9] (fun t => ∃ k : Nat, t = .int .i64 k ∧ k ≤ bareN p) (fun t => n - (intOf t).toNat)
    case atStart => exact ⟨0, rfl, Nat.zero_le _⟩
    case round =>
      obtain ⟨k, rfl, hk⟩ := hrel
      by_cases hlt : k < bareN p
      · obtain ⟨b1, o1, ha, hc⟩ := hv k (by have := Hn.out; omega)
        subst ha
        obtain ⟨g1, g2⟩ := bareN_at p k hlt
        have K1 := isWS_any (p.getD k 0) w
        have K2 := isQuote_any (p.getD k 0) w
        rw [g1] at K1
        rw [g2] at K2
        generalize p.getD k 0 = x at hc K1 K2
        clear g1 g2
        go_wp2_with fail
        refine K1.mono ?_
        rintro e w5 ⟨rfl, hw5⟩
        cases hw5
        go_wp2_with fail
        refine K2.mono ?_
        rintro e w5 ⟨rfl, hw5⟩
        cases hw5
        go_wp2
        go_roundw
        case rel => exact ⟨k + 1, by go_num, by omega⟩
        case measure => simp [intOf]; omega
      · obtain rfl : k = bareN p := by omega
        have hTl : (p.take (bareN p)).length = bareN p := by rw [List.length_take, Hn.out]; omega
        have HTl : Hid ((p.take (bareN p)).length = bareN p) := hTl
        clear hTl
        by_cases hkn : bareN p = n
        · have HK : Hid (bareN p = n) := hkn
          have hkb : ((bareN p : Int) == (n : Int)) = true := beq_iff_eq.2 (by omega)
          have hge : ¬ bareN p < n := by omega
          clear hkn
          by_cases hpos : 0 < bareN p
          · have HE : Hid (wordEnc p m style = p.take (bareN p)) := by
              unfold Hid wordEnc
              rw [if_neg (by have := H3.out; omega), if_pos H3.out, if_pos ⟨hpos, by rw [Hn.out]; exact HK.out⟩, List.take_of_length_le (by rw [Hn.out, HK.out]; omega)]
            go_wp2_with (at_builtin; refine wpList_app w rfl _ _ rfl base v0 zs rfl ho hbase ap (bareN p) cp (p.take (bareN p)) rfl hcp (hv.take _) HTl.out (by omega) ?_)
            intro v' w' hO' hK'
            go_wp2
            go_ret
            exact ⟨v', rfl, by rw [HE.out]; exact hO', hK'⟩
          · have h0 : bareN p = 0 := by omega
            have HE : Hid (wordEnc p m style = dq [] style) := by
              have hp0 : p = [] := List.eq_nil_of_length_eq_zero (by rw [Hn.out, ← HK.out]; exact h0)
              unfold Hid wordEnc
              rw [if_neg (by have := H3.out; omega), if_pos H3.out, if_neg (by omega)]
              subst hp0
              simp [bareN]
            have HP : Hid (p.take (bareN p) = []) := by unfold Hid; rw [h0]; rfl
            have H0 : Hid (bareN p = 0) := h0
            clear h0
            go_wp2_with (at_builtin; refine wpList_app w rfl _ _ rfl base v0 zs rfl ho hbase ap (bareN p) cp (p.take (bareN p)) rfl hcp (hv.take _) HTl.out (by omega) ?_)
            intro v' w' hO' hK'
            have hf1 : Hid (∀ b off, ap = some ⟨b, off, none⟩ → some b ≠ v'.ownBlock) := kept_ne hK' HN1.out HL1.out
            have hf2 : Hid (∀ b off, asx = some ⟨b, off, none⟩ → some b ≠ v'.ownBlock) := kept_ne hK' HN2.out HL2.out
            have hf3 : Hid (∀ b off, Option.map (fun x => x.add (bareN p)) ap = some ⟨b, off, none⟩ → some b ≠ v'.ownBlock) := by
              intro b off hh
              rw [H0.out] at hh
              cases hap : ap with
              | none => rw [hap] at hh; cases hh
              | some x =>
                rw [hap] at hh
                have hx : x.add 0 = ⟨b, off, none⟩ := by simpa using hh
                rw [Addr.add_zero'] at hx
                exact hf1.out b off (by rw [hap, hx])
            have hbr' : base ≤ w'.heap.size := Nat.le_trans hbase hK'.1.size
            have hsty := hK'.vw hw HN2.out
            have hln : ([] : List Int).length = n - bareN p := by rw [HK.out]; simp
            have hbb : (zs ++ p.take (bareN p)).length + 4 * (n - bareN p) ≤ 1073741824 := by rw [List.length_append, HTl.out]; omega
            have hfin : ∀ e w2, AppPost base w' v' (zs ++ p.take (bareN p)) (dq [] style) e w2 → AppPost base w v0 zs (wordEnc p m style) e w2 := by
              rintro e w2 ⟨v2, h1, h2, h3⟩
              refine ⟨v2, h1, ?_, hK'.trans h3⟩
              rw [HP.out, List.append_nil] at h2
              rw [HE.out]
              exact h2
            have HF := hidE hfin
            have D1 := fun c' => dq_any base v' ap asx (n - bareN p) c' s cs (zs ++ p.take (bareN p)) [] style w' hO' hbr' (vw_nil _ _ _) hsty hln Hs.out hf1.out hf2.out (fun x hx => by cases hx) hst hbb hb2
            have D2 := fun c' => dq_any base v' (Option.map (fun x => x.add (bareN p)) ap) asx (n - bareN p) c' s cs (zs ++ p.take (bareN p)) [] style w' hO' hbr' (vw_nil _ _ _) hsty hln Hs.out hf3.out hf2.out (fun x hx => by cases hx) hst hbb hb2
            have D1' := hidE D1
            have D2' := hidE D2
            clear hO' hsty hln hbb hfin D1 D2
            go_wp2_with fail
            · refine (D1'.out _).mono ?_
              rintro e w2 hP
              obtain ⟨v2, rfl, h2, h3⟩ := (id hP : AppPost _ _ _ _ _ _ _)
              go_wp2
              go_ret
              exact HF.out _ _ hP
            · refine (D2'.out _).mono ?_
              rintro e w2 hP
              obtain ⟨v2, rfl, h2, h3⟩ := (id hP : AppPost _ _ _ _ _ _ _)
              go_wp2
              go_ret
              exact HF.out _ _ hP
        · have hkl : bareN p < n := by omega
          have hkb : ((bareN p : Int) == (n : Int)) = false := beq_eq_false_iff_ne.2 (by omega)
          have hend := bareN_end p (by rw [Hn.out]; exact hkl)
          obtain ⟨b1, o1, ha, hc⟩ := hv (bareN p) (by rw [Hn.out]; exact hkl)
          subst ha
          have HE : Hid (wordEnc p m style = p.take (bareN p) ++ dq (p.drop (bareN p)) style) := by
            unfold Hid wordEnc
            rw [if_neg (by have := H3.out; omega), if_pos H3.out, if_neg (by rw [Hn.out]; exact fun h => hkn h.2)]
          clear hkn
          have K1 := isWS_any (p.getD (bareN p) 0) w
          have K2 := isQuote_any (p.getD (bareN p) 0) w
          cases hws : wsB (p.getD (bareN p) 0)
          · have hqt : qtB (p.getD (bareN p) 0) = true := by
              cases hq : qtB (p.getD (bareN p) 0)
              · exact absurd ⟨hws, hq⟩ hend
              · rfl
            rw [hws] at K1
            rw [hqt] at K2
            generalize p.getD (bareN p) 0 = x at hc K1 K2
            clear hws hqt hend
            go_wp2_with fail
            refine K1.mono ?_
            rintro e w5 ⟨rfl, hw5⟩
            cases hw5
            go_wp2_with fail
            refine K2.mono ?_
            rintro e w5 ⟨rfl, hw5⟩
            cases hw5
            go_wp2_with (at_builtin; refine wpList_app w rfl _ _ rfl base v0 zs rfl ho hbase (some ⟨b1, o1, none⟩) (bareN p) cp (p.take (bareN p)) rfl hcp (hv.take _) HTl.out (by omega) ?_)
            intro v' w' hO' hK'
            have hf1 : Hid (∀ b off, some (⟨b1, o1 + bareN p, none⟩ : Addr) = some ⟨b, off, none⟩ → some b ≠ v'.ownBlock) := by
              intro b off hh
              cases hh
              exact kept_ne hK' HN1.out HL1.out b1 o1 rfl
            have hf2 : Hid (∀ b off, asx = some ⟨b, off, none⟩ → some b ≠ v'.ownBlock) := kept_ne hK' HN2.out HL2.out
            have hbr' : base ≤ w'.heap.size := Nat.le_trans hbase hK'.1.size
            have hsty := hK'.vw hw HN2.out
            have hpv := (hK'.vw hv HN1.out).drop (bareN p)
            have hln : (p.drop (bareN p)).length = n - bareN p := by rw [List.length_drop, Hn.out]
            have hbb : (zs ++ p.take (bareN p)).length + 4 * (n - bareN p) ≤ 1073741824 := by rw [List.length_append, HTl.out]; omega
            have hfin : ∀ e w2, AppPost base w' v' (zs ++ p.take (bareN p)) (dq (p.drop (bareN p)) style) e w2 → AppPost base w v0 zs (wordEnc p m style) e w2 := by
              rintro e w2 ⟨v2, h1, h2, h3⟩
              refine ⟨v2, h1, ?_, hK'.trans h3⟩
              rw [HE.out, ← List.append_assoc]
              exact h2
            have HF := hidE hfin
            have D1 := dq_any base v' (some ⟨b1, o1 + bareN p, none⟩) asx (n - bareN p) (cp - bareN p) s cs (zs ++ p.take (bareN p)) (p.drop (bareN p)) style w' hO' hbr' hpv hsty hln Hs.out hf1.out hf2.out (fun x hx => hp x (List.mem_of_mem_drop hx)) hst hbb hb2
            have D1' := hidE D1
            clear hO' hsty hln hbb hfin D1 hpv
            go_wp2_with fail
            all_goals
              refine D1'.out.mono ?_
              rintro e w2 hP
              obtain ⟨v2, rfl, h2, h3⟩ := (id hP : AppPost _ _ _ _ _ _ _)
              go_wp2
              go_ret
              exact HF.out _ _ hP
          · rw [hws] at K1
            generalize p.getD (bareN p) 0 = x at hc K1
            clear hws hend K2
            go_wp2_with fail
            refine K1.mono ?_
            rintro e w5 ⟨rfl, hw5⟩
            cases hw5
            go_wp2_with (at_builtin; refine wpList_app w rfl _ _ rfl base v0 zs rfl ho hbase (some ⟨b1, o1, none⟩) (bareN p) cp (p.take (bareN p)) rfl hcp (hv.take _) HTl.out (by omega) ?_)
            intro v' w' hO' hK'
            have hf1 : Hid (∀ b off, some (⟨b1, o1 + bareN p, none⟩ : Addr) = some ⟨b, off, none⟩ → some b ≠ v'.ownBlock) := by
              intro b off hh
              cases hh
              exact kept_ne hK' HN1.out HL1.out b1 o1 rfl
            have hf2 : Hid (∀ b off, asx = some ⟨b, off, none⟩ → some b ≠ v'.ownBlock) := kept_ne hK' HN2.out HL2.out
            have hbr' : base ≤ w'.heap.size := Nat.le_trans hbase hK'.1.size
            have hsty := hK'.vw hw HN2.out
            have hpv := (hK'.vw hv HN1.out).drop (bareN p)
            have hln : (p.drop (bareN p)).length = n - bareN p := by rw [List.length_drop, Hn.out]
            have hbb : (zs ++ p.take (bareN p)).length + 4 * (n - bareN p) ≤ 1073741824 := by rw [List.length_append, HTl.out]; omega
            have hfin : ∀ e w2, AppPost base w' v' (zs ++ p.take (bareN p)) (dq (p.drop (bareN p)) style) e w2 → AppPost base w v0 zs (wordEnc p m style) e w2 := by
              rintro e w2 ⟨v2, h1, h2, h3⟩
              refine ⟨v2, h1, ?_, hK'.trans h3⟩
              rw [HE.out, ← List.append_assoc]
              exact h2
            have HF := hidE hfin
            have D1 := dq_any base v' (some ⟨b1, o1 + bareN p, none⟩) asx (n - bareN p) (cp - bareN p) s cs (zs ++ p.take (bareN p)) (p.drop (bareN p)) style w' hO' hbr' hpv hsty hln Hs.out hf1.out hf2.out (fun x hx => hp x (List.mem_of_mem_drop hx)) hst hbb hb2
            have D1' := hidE D1
            clear hO' hsty hln hbb hfin D1 hpv
            go_wp2_with fail
            all_goals
              refine D1'.out.mono ?_
              rintro e w2 hP
              obtain ⟨v2, rfl, h2, h3⟩ := (id hP : AppPost _ _ _ _ _ _ _)
              go_wp2
              go_ret
              exact HF.out _ _ hP

end Go.Proofs.Qxb6606283a
