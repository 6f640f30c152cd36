/-
  SEAT b6605399a: THE WALK OF 'FnLacksFirstNeededWhenNothingDelivered'.
-/
import Derived.Test.Qxb6605399aZZLacks
import Derived.Deep.DeepCutAuto
namespace Go.Proofs.Qxb6605399a.fnLacksFirstNeededWhenNothingDelivered
open Go.RowKit
set_option linter.unusedVariables false

set_option maxHeartbeats 400000 in
theorem bytes14_any (a b : Option Addr) (n c m d : Nat) (o s : Int) (w : World) (hn : n ≤ maxLen) (hm : m ≤ maxLen) :
    Calls Try.prog 14 #[.slice a n c, .int .i64 o, .int .u64 s, .slice b m d] w fun e w' => ∃ r : Bool, e = .returned (.bool r) ∧ w' = w ∧ (n ≤ 65536 → m ≤ 65536 → r = true) := by
  unfold maxLen at hn hm
  go_enter Try.func14, Try.ntmps14
  go_wp2
  all_goals
    go_ret
    exact ⟨_, rfl, rfl, fun h1 h2 => by first | rfl | omega⟩

set_option maxHeartbeats 400000 in
theorem walk_big (a b : Option Addr) (n c m d : Nat) (o s : Int) (w : World) (h : ¬ (n ≤ 65536 ∧ m ≤ 65536 ∧ o ≤ 65536)) (hn : n ≤ maxLen) (hm : m ≤ maxLen) :
    Calls Try.prog 6 #[.slice a n c, .int .i64 o, .int .u64 s, .slice b m d] w fun e w' => e = .returned (.bool true) ∧ Below w.heap.size w w' := by
  have H := bytes14_any a b n c m d o s w hn hm
  unfold maxLen at hn hm
  by_cases h1 : n ≤ 65536
  · by_cases h2 : m ≤ 65536
    · have h3 : ¬ o ≤ 65536 := fun h3 => h ⟨h1, h2, h3⟩
      clear h
      go_enter Try.func6, Try.ntmps6
      go_wp2_with fail
      refine H.mono ?_
      rintro e w' ⟨r, rfl, rfl, -⟩
      cases r
      all_goals
        go_wp2
        go_ret
        exact ⟨rfl, Below.refl _ _⟩
    · clear h
      go_enter Try.func6, Try.ntmps6
      go_wp2_with fail
      refine H.mono ?_
      rintro e w' ⟨r, rfl, rfl, -⟩
      cases r
      all_goals
        go_wp2
        go_ret
        exact ⟨rfl, Below.refl _ _⟩
  · clear h
    go_enter Try.func6, Try.ntmps6
    go_wp2_with fail
    refine H.mono ?_
    rintro e w' ⟨r, rfl, rfl, -⟩
    cases r
    all_goals
      go_wp2
      go_ret
      exact ⟨rfl, Below.refl _ _⟩

/-- What the loop knows when the ids above k have been looked at (t stands for the id t + 1). -/
def Best (zs : List Int) (origin seq : Int) (k : Nat) (best : Int) : Prop :=
  (best = 0 ∧ ∀ t : Nat, (k ≤ t ∨ (t : Int) + 1 = origin) → ¬ Need zs origin seq t) ∨
  ∃ t : Nat, best = (t : Int) + 1 ∧ Need zs origin seq t ∧ ∀ t' : Nat, (k ≤ t' ∨ (t' : Int) + 1 = origin) → Need zs origin seq t' → t ≤ t'

theorem need_lt {zs : List Int} {origin seq : Int} {t : Nat} (h : Need zs origin seq t) : t < max zs.length origin.toNat := by
  rcases h with ⟨h, _⟩ | ⟨_, h⟩
  · omega
  · by_cases hl : t < zs.length
    · omega
    · exfalso; apply h; simp [List.getD, show zs.length ≤ t by omega]

theorem best_start (zs : List Int) (origin seq : Int) (n : Nat) (hn : zs.length = n) : Best zs origin seq n (if 1 ≤ origin ∧ seq ≠ 1 then origin else 0) := by
  have hout : ∀ t : Nat, n ≤ t → ¬ (t : Int) + 1 = origin → ¬ Need zs origin seq t := by
    rintro t ht hne (⟨h, _⟩ | ⟨_, h⟩)
    · exact hne h
    · apply h; simp [List.getD, show zs.length ≤ t by omega]
  by_cases hc : 1 ≤ origin ∧ seq ≠ 1
  · rw [if_pos hc]
    refine Or.inr ⟨(origin - 1).toNat, by omega, Or.inl ⟨by omega, hc.2⟩, ?_⟩
    intro t' ht' hN
    by_cases e : (t' : Int) + 1 = origin
    · omega
    · rcases ht' with h | h
      · exact absurd hN (hout t' h e)
      · exact absurd h e
  · rw [if_neg hc]
    refine Or.inl ⟨rfl, ?_⟩
    intro t ht hN
    by_cases e : (t : Int) + 1 = origin
    · rcases hN with ⟨_, h⟩ | ⟨h, _⟩
      · exact hc ⟨by omega, h⟩
      · exact h e
    · rcases ht with h | h
      · exact hout t h e hN
      · exact e h

theorem best_skip {zs : List Int} {origin seq : Int} {k : Nat} {best : Int} (h : Best zs origin seq (k + 1) best) (hk : (k : Int) + 1 = origin ∨ ¬ Need zs origin seq k ∨ (1 ≤ best ∧ best ≤ (k : Int) + 1)) : Best zs origin seq k best := by
  have red : ∀ t' : Nat, (k ≤ t' ∨ (t' : Int) + 1 = origin) → t' = k ∨ (k + 1 ≤ t' ∨ (t' : Int) + 1 = origin) := by
    intro t' h; omega
  rcases h with ⟨h0, hall⟩ | ⟨t, hb, hN, hmin⟩
  · refine Or.inl ⟨h0, fun t ht hN => ?_⟩
    rcases red t ht with e | e
    · subst e
      rcases hk with hk | hk | hk
      · exact hall t (Or.inr hk) hN
      · exact hk hN
      · omega
    · exact hall t e hN
  · refine Or.inr ⟨t, hb, hN, fun t' ht hN' => ?_⟩
    rcases red t' ht with e | e
    · subst e
      rcases hk with hk | hk | hk
      · exact hmin t' (Or.inr hk) hN'
      · exact absurd hN' hk
      · omega
    · exact hmin t' e hN'

theorem best_take {zs : List Int} {origin seq : Int} {k : Nat} {best : Int} (h : Best zs origin seq (k + 1) best) (hN : Need zs origin seq k) (hb : best = 0 ∨ (k : Int) + 1 < best) : Best zs origin seq k ((k : Int) + 1) := by
  refine Or.inr ⟨k, rfl, hN, fun t' ht hN' => ?_⟩
  rcases h with ⟨h0, hall⟩ | ⟨t, hbt, hNt, hmin⟩
  · by_cases e : k + 1 ≤ t'
    · omega
    · by_cases e2 : t' = k
      · omega
      · rcases ht with ht | ht
        · omega
        · exact absurd hN' (hall t' (Or.inr ht))
  · by_cases e : k ≤ t'
    · exact e
    · rcases ht with ht | ht
      · exact ht
      · have := hmin t' (Or.inr ht) hN'
        rcases hb with hb | hb <;> omega

theorem best_last {zs : List Int} {origin seq : Int} {best q n : Int} (h : Best zs origin seq 0 best) (hL : LackSpec zs origin seq q n) : q = best ∧ n = if best = 0 then 0 else 1 := by
  rcases h with ⟨h0, hall⟩ | ⟨t, hb, hN, hmin⟩
  · rcases hL with ⟨hq, hn, _⟩ | ⟨j, _, _, _, hNj, _⟩
    · exact ⟨by omega, by rw [if_pos h0]; exact hn⟩
    · exact absurd hNj (hall j (Or.inl (Nat.zero_le _)))
  · rcases hL with ⟨_, _, hnone⟩ | ⟨j, hj, hq, hn, hNj, hfirst⟩
    · exact absurd hN (hnone t (need_lt hN))
    · have h1 := hmin j (Or.inl (Nat.zero_le _)) hNj
      have h2 : ¬ t < j := fun h => hfirst t h hN
      exact ⟨by omega, by rw [if_neg (by omega)]; exact hn⟩

/-- Its own origin is needed. -/
def ownB (origin seq : Int) : Bool := decide (1 ≤ origin ∧ seq ≠ 1)

set_option maxHeartbeats 1000000 in
set_option maxRecDepth 20000 in
theorem walk_small (a0 a : Option Addr) (n0 c0 n c : Nat) (origin seq : Int) (ds zs : List Int) (w : World) (hd : Vw .i64 w a0 ds) (hd1 : ds.length = n0) (hd2 : n0 ≤ 65536) (hdw : ∀ x ∈ ds, (Lit.int .i64 x).wf = true)
    (hv : Vw .u64 w a zs) (hn : zs.length = n) (hb : n ≤ 65536) (hor : origin ≤ 65536) (hs1 : 0 ≤ seq) (hs2 : seq < 18446744073709551616) (hz : ∀ j, 0 ≤ zs.getD j 0) :
    Calls Try.prog 6 #[.slice a0 n0 c0, .int .i64 origin, .int .u64 seq, .slice a n c] w fun e w' => e = .returned (.bool true) ∧ Below w.heap.size w w' := by
  have H := bytes14_any a0 a n0 c0 n c origin seq w (by unfold maxLen; omega) (by unfold maxLen; omega)
  have H15 := cloneInt_any a0 n0 c0 ds w hd hd1 (by omega)
  have Hn : Hid (zs.length = n) := hn
  have Hd : Hid (ds.length = n0) := hd1
  clear hn hd1
  go_enter Try.func6, Try.ntmps6
  go_wp2_with fail
  refine H.mono ?_
  rintro e w' ⟨r, rfl, rfl, hr⟩
  obtain rfl := hr hd2 hb
  clear H hr
  go_wp2_with fail
  refine H15.mono ?_
  rintro e w1 ⟨a1, rfl, hown1, hb1⟩
  have hd' := own_vw hown1
  have hv1 := hv.below hb1
  clear H15 hown1 hd hv
  go_wp2_with fail
  refine (clone_any a n c zs w1 hv1 Hn.out (by omega)).mono ?_
  rintro e w2 ⟨a2, rfl, hown2, hb2⟩
  have hd2' := hd'.below hb2
  have hv2 := own_vw hown2
  have hbw : Below w'.heap.size w' w2 := hb1.trans (hb2.mono hb1.size)
  clear hown2 hd' hv1 hb1 hb2
  have hB0 := best_start zs origin seq n Hn.out
  go_upto_region 12 with fail
  go_cut [37] (fun t wc => t = .bool (ownB origin seq) ∧ w2 = wc)
  case first =>
    by_cases h1 : 1 ≤ origin
    · have HO : Hid (ownB origin seq = (seq != 1)) := by
        unfold Hid ownB; rw [Bool.eq_iff_iff]; simp [h1]
      go_wp2
      go_meet
      case rel => exact ⟨by rw [HO.out], rfl⟩
    · have HO : Hid (ownB origin seq = false) := decide_eq_false (fun h => h1 h.1)
      go_wp2
      go_meet
      case rel => exact ⟨by rw [HO.out], rfl⟩
  case rest =>
    obtain ⟨rfl, rfl⟩ := hcut
    go_upto_if 37 with fail
    go_cut [9] (fun t wc => ∃ best, t = .int .i64 best ∧ Best zs origin seq n best ∧ w2 = wc)
    case first =>
      by_cases hc : 1 ≤ origin ∧ seq ≠ 1
      · have HB : Hid (Best zs origin seq n origin) := by rw [if_pos hc] at hB0; exact hB0
        have ho : ownB origin seq = true := decide_eq_true hc
        clear hc hB0
        rw [ho]
        clear ho
        go_wp2
        go_meet
        case rel => exact ⟨origin, rfl, HB.out, rfl⟩
      · have HB : Hid (Best zs origin seq n 0) := by rw [if_neg hc] at hB0; exact hB0
        have ho : ownB origin seq = false := decide_eq_false hc
        clear hc hB0
        rw [ho]
        clear ho
        go_wp2
        go_meet
        case rel => exact ⟨0, rfl, HB.out, rfl⟩
    case rest =>
      clear hB0
      obtain ⟨best, rfl, hB, rfl⟩ := hcut
      go_wp2
      go_loop [9, 10] (fun t i => ∃ (k : Nat) (best : Int), k ≤ n ∧ i = .int .i64 k ∧ t = .int .i64 best ∧ Best zs origin seq k best) (fun _ i => (intOf i).toNat)
      case atStart => exact ⟨n, best, Nat.le_refl _, rfl, rfl, hB⟩
      case round =>
        clear hB
        obtain ⟨k, best', hk, rfl, rfl, hB⟩ := hrel
        have HB : Hid (Best zs origin seq k best') := hB
        clear hB
        cases k with
        | zero =>
          have hk0 : ((0 : Nat) : Int) = 0 := rfl
          rw [hk0]
          have H16 := zzlacks_any a1 a2 n0 n0 n n origin seq ds zs w2 hd2' Hd.out hd2 hdw hv2 Hn.out (by omega) (by omega) hs1 hs2 hz
          by_cases hb0 : best' = 0
          · subst hb0
            go_wp2_with fail
            refine H16.mono ?_
            rintro e w3 ⟨q, m, rfl, hL, hb3⟩
            obtain ⟨rfl, rfl⟩ := best_last HB.out hL
            go_wp2
            go_ret
            exact ⟨by simp, hbw.trans (hb3.mono hbw.size)⟩
          · have hbb : (best' != 0) = true := by simpa using hb0
            go_wp2_with fail
            refine H16.mono ?_
            rintro e w3 ⟨q, m, rfl, hL, hb3⟩
            obtain ⟨rfl, hm⟩ := best_last HB.out hL
            rw [if_neg hb0] at hm
            subst hm
            go_wp2
            go_ret
            exact ⟨by simp, hbw.trans (hb3.mono hbw.size)⟩
        | succ k =>
          have hk1 : ((k + 1 : Nat) : Int) = (k : Int) + 1 := by omega
          rw [hk1]
          clear hk1
          by_cases hq : (k : Int) + 1 = origin
          · have HB' : Hid (Best zs origin seq k best') := best_skip HB.out (Or.inl hq)
            have hqb : ((k : Int) + 1 != origin) = false := by simp [hq]
            clear hq HB
            go_wp2
            go_round
            case rel => exact ⟨k, best', by omega, rfl, rfl, HB'.out⟩
            case measure => simp [intOf]
          · have hqb : ((k : Int) + 1 != origin) = true := by simpa using hq
            obtain ⟨b, off, ha, hc⟩ := hv2 k (by have := Hn.out; omega)
            subst ha
            by_cases hz0 : zs.getD k 0 = 0
            · have HB' : Hid (Best zs origin seq k best') := best_skip HB.out (Or.inr (Or.inl (by rintro (⟨h, _⟩ | ⟨_, h⟩); exact hq h; exact h hz0)))
              rw [hz0] at hc
              clear hz0 hq HB
              go_wp2
              go_round
              case rel => exact ⟨k, best', by omega, rfl, rfl, HB'.out⟩
              case measure => simp [intOf]
            · have hN : Need zs origin seq k := Or.inr ⟨hq, hz0⟩
              have hzb : (zs.getD k 0 != 0) = true := by simpa using hz0
              by_cases hb0 : best' = 0
              · have HB' : Hid (Best zs origin seq k ((k : Int) + 1)) := best_take HB.out hN (Or.inl hb0)
                clear hq HB hN hz0
                generalize zs.getD k 0 = z at hc hzb
                subst hb0
                go_wp2
                go_round
                case rel => exact ⟨k, (k : Int) + 1, by omega, rfl, rfl, HB'.out⟩
                case measure => simp [intOf]
              · have hb1 : (best' == 0) = false := beq_eq_false_iff_ne.2 hb0
                by_cases hb2 : (k : Int) + 1 < best'
                · have HB' : Hid (Best zs origin seq k ((k : Int) + 1)) := best_take HB.out hN (Or.inr hb2)
                  clear hq HB hN hz0 hb0
                  generalize zs.getD k 0 = z at hc hzb
                  go_wp2
                  go_round
                  case rel => exact ⟨k, (k : Int) + 1, by omega, rfl, rfl, HB'.out⟩
                  case measure => simp [intOf]
                · have HB' : Hid (Best zs origin seq k best') := by
                    refine best_skip HB.out (Or.inr (Or.inr ⟨?_, by omega⟩))
                    rcases HB.out with ⟨h, _⟩ | ⟨t, h, _⟩ <;> omega
                  clear hq HB hN hz0 hb0
                  generalize zs.getD k 0 = z at hc hzb
                  go_wp2
                  go_round
                  case rel => exact ⟨k, best', by omega, rfl, rfl, HB'.out⟩
                  case measure => simp [intOf]

end Go.Proofs.Qxb6605399a.fnLacksFirstNeededWhenNothingDelivered
