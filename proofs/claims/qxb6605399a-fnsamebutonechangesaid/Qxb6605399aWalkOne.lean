/-
  SEAT b6605399a: THE WALK OF 'FnSameButOneChange'.
-/
import Derived.Test.Qxb6605399aSame
import Derived.WalkSmall
namespace Go.Proofs.Qxb6605399a.fnSameButOneChange
open Go.RowKit
set_option linter.unusedVariables false

set_option maxHeartbeats 400000 in
theorem bytes13_any (a : Option Addr) (n c : Nat) (q p x : Int) (w : World) (hn : n ≤ maxLen) :
    Calls Try.prog 13 #[.slice a n c, .int .i64 q, .int .i64 p, .int .u64 x] w fun e w' => ∃ r : Bool, e = .returned (.bool r) ∧ w' = w ∧ (n ≤ 131072 → r = true) := by
  unfold maxLen at hn
  go_enter Try.func13, Try.ntmps13
  go_wp2
  all_goals
    go_ret
    exact ⟨_, rfl, rfl, fun h1 => by first | rfl | omega⟩

set_option maxHeartbeats 400000 in
theorem walk_out (a : Option Addr) (n c : Nat) (q p x : Int) (w : World) (h : ¬ (n ≤ 131072 ∧ 1 ≤ q ∧ q ≤ (n : Int) ∧ ¬ p = q)) (hn : n ≤ maxLen) :
    Calls Try.prog 5 #[.slice a n c, .int .i64 q, .int .i64 p, .int .u64 x] w fun e w' => e = .returned (.bool true) ∧ Below w.heap.size w w' := by
  have H := bytes13_any a n c q p x w hn
  unfold maxLen at hn
  by_cases h1 : n ≤ 131072
  · by_cases h2 : 1 ≤ q
    · by_cases h3 : q ≤ (n : Int)
      · obtain rfl : p = q := Classical.byContradiction fun h4 => h ⟨h1, h2, h3, h4⟩
        clear h
        go_enter Try.func5, Try.ntmps5
        go_wp2_with fail
        refine H.mono ?_
        rintro e w' ⟨r, rfl, rfl, -⟩
        cases r
        all_goals
          go_wp2
          go_ret
          exact ⟨rfl, Below.refl _ _⟩
      · clear h
        go_enter Try.func5, Try.ntmps5
        go_wp2_with fail
        refine H.mono ?_
        rintro e w' ⟨r, rfl, rfl, -⟩
        cases r
        all_goals
          go_wp2
          go_ret
          exact ⟨rfl, Below.refl _ _⟩
    · clear h
      go_enter Try.func5, Try.ntmps5
      go_wp2_with fail
      refine H.mono ?_
      rintro e w' ⟨r, rfl, rfl, -⟩
      cases r
      all_goals
        go_wp2
        go_ret
        exact ⟨rfl, Below.refl _ _⟩
  · clear h
    go_enter Try.func5, Try.ntmps5
    go_wp2_with fail
    refine H.mono ?_
    rintro e w' ⟨r, rfl, rfl, -⟩
    cases r
    all_goals
      go_wp2
      go_ret
      exact ⟨rfl, Below.refl _ _⟩

theorem sameB_comm (zs ws : List Int) (q : Int) : sameB zs ws q = sameB ws zs q := by
  rw [Bool.eq_iff_iff, sameB_iff, sameB_iff, Nat.max_comm]
  constructor
  · intro h p hp
    rcases h p hp with e | e
    · exact Or.inl e
    · exact Or.inr e.symm
  · intro h p hp
    rcases h p hp with e | e
    · exact Or.inl e
    · exact Or.inr e.symm

theorem getD_set (zs : List Int) (j t : Nat) (x : Int) (hj : j < zs.length) : (zs.set j x).getD t 0 = if t = j then x else zs.getD t 0 := by
  by_cases e : t = j
  · subst e; simp [List.getD, hj]
  · rw [if_neg e]; simp only [List.getD]; rw [List.getElem?_set_ne (by omega)]

theorem sameB_own (zs : List Int) (j : Nat) (x : Int) (hj : j < zs.length) : sameB zs (zs.set j x) ((j : Int) + 1) = true := by
  refine sameB_true fun p hp => ?_
  by_cases e : p = j
  · exact Or.inl (by omega)
  · refine Or.inr ?_
    rw [getD_set zs j p x hj, if_neg e]

theorem sameB_other (zs : List Int) (j : Nat) (x q : Int) (hj : j < zs.length) (hq : ¬ q = (j : Int) + 1) : sameB zs (zs.set j x) q = (x == zs.getD j 0) := by
  rw [Bool.eq_iff_iff, sameB_iff, beq_iff_eq]
  constructor
  · intro h
    rcases h j (by simp; omega) with e | e
    · omega
    · rw [getD_set zs j j x hj, if_pos rfl] at e; exact e.symm
  · intro h p hp
    refine Or.inr ?_
    rw [getD_set zs j p x hj]
    by_cases e : p = j
    · rw [if_pos e, h, e]
    · rw [if_neg e]

set_option maxHeartbeats 1000000 in
set_option maxRecDepth 20000 in
theorem walk_in (a : Option Addr) (n c : Nat) (q' : Nat) (p x : Int) (zs : List Int) (w : World) (hv : Vw .u64 w a zs) (hn : zs.length = n) (h1 : n ≤ 131072) (hq : q' < n) (hp : ¬ p = (q' : Int) + 1) :
    Calls Try.prog 5 #[.slice a n c, .int .i64 ((q' : Int) + 1), .int .i64 p, .int .u64 x] w fun e w' => e = .returned (.bool true) ∧ Below w.heap.size w w' := by
  obtain ⟨i0, hi, hz0, hz1, hz2⟩ := info_parts Try.info25
  have H := bytes13_any a n c ((q' : Int) + 1) p x w (by unfold maxLen; omega)
  have H9 := clone_any a n c zs w hv hn (by omega)
  have Hn : Hid (zs.length = n) := hn
  have hpb : (p == (q' : Int) + 1) = false := beq_eq_false_iff_ne.2 hp
  have HP : Hid (¬ p = (q' : Int) + 1) := hp
  clear hn hp
  go_enter Try.func5, Try.ntmps5
  go_wp2_with fail
  refine H.mono ?_
  rintro e w' ⟨r, rfl, rfl, hr⟩
  obtain rfl := hr h1
  clear H hr
  go_wp2_with fail
  refine H9.mono ?_
  rintro e w1 ⟨a1, rfl, hown1, hb1⟩
  have hv1 := own_vw hown1
  clear H9 hown1 hv
  go_wp2_with (at_make; refine wpList_make_full _ rfl _ _ 22 rfl w1.heap.size 25 i0 (.int .u64 0) 1 Try.underlying22 hi hz0 hz1 .i64 .i64 _ _ n rfl rfl rfl rfl ?c1 ?c2 ?c3 ?_)
  case c1 => rw [hz2]; omega
  case c2 => unfold maxLen; omega
  case c3 => omega
  intro w2 hown hgrow
  have hb2 : Below w1.heap.size w1 w2 := (Below.refl _ w1).grown hgrow (Nat.le_refl _) (by intro k h; cases h)
  go_wp2
  go_loopw [10] (fun i wr => ∃ (k : Nat) (xs : List Value), k ≤ n ∧ i = .int .i64 k ∧ wr.ownsRow w1.heap.size 25 1 (.slice (some ⟨w1.heap.size, 0, none⟩) n n) n xs ∧ Filled .u64 zs k xs ∧ Below w1.heap.size w1 wr) (fun i _ => n - (intOf i).toNat)
  case atStart => exact ⟨0, _, Nat.zero_le _, rfl, hown, fun j hj => by omega, hb2⟩
  case round =>
    obtain ⟨k, xs, hk, rfl, hown', hf, hbr⟩ := hrel
    clear hown hgrow hb2
    have hvr := hv1.below hbr
    by_cases hlt : k < n
    · obtain ⟨b, off, ha1, hc1⟩ := hvr k (by have := Hn.out; omega)
      subst ha1
      obtain ⟨v0, g1, g2, g3⟩ := own_at hown' k hlt
      have hst := hown'.stored k (.int .u64 (zs.getD k 0))
      have hfs := hf.step (by have := hown'.1; omega)
      have hb3 : Below w1.heap.size w1 (wr.setCell ⟨w1.heap.size, k, none⟩ (.int .u64 (zs.getD k 0))) := hbr.setCell (Nat.le_refl _) _
      generalize zs.getD k 0 = z at hc1 hst hfs hb3
      clear hown' hf hbr
      go_wp2
      go_roundw
      case rel => exact ⟨k + 1, _, by omega, by go_num, hst.1, hfs, hb3⟩
      case measure => simp [intOf]; omega
    · obtain rfl : k = n := by omega
      have hl : q' < zs.length := by have := Hn.out; omega
      obtain ⟨v0, g1, g2, g3⟩ := own_at hown' q' hq
      obtain ⟨b, off, ha1, hc1⟩ := hvr q' hl
      rw [hf.all (by have := hown'.1; omega) Hn.out] at hown'
      have hst := (hown'.stored q' (.int .u64 x)).1
      have hb3 : Below w1.heap.size w1 (wr.setCell ⟨w1.heap.size, q', none⟩ (.int .u64 x)) := hbr.setCell (Nat.le_refl _) _
      rw [← List.map_set] at hst
      have hvw := own_vw hst
      have hva := hv1.below hb3
      have hbl : b < w1.heap.size := by
        obtain ⟨b', off', ha', hc', hb'⟩ := hv1.lt q' hl
        rw [ha1] at ha'; simp at ha'; omega
      have hc2 : (wr.setCell ⟨w1.heap.size, q', none⟩ (.int .u64 x)).cell? ⟨b, off + q', none⟩ = some (.int .u64 (zs.getD q' 0)) := by
        obtain ⟨b', off', ha', hc'⟩ := hva q' hl
        rw [ha1] at ha'; simp at ha'
        obtain ⟨rfl, rfl⟩ := ha'
        exact hc'
      have hls : (zs.set q' x).length = k := by rw [List.length_set]; exact Hn.out
      have C1 := zzsame_any a1 (some ⟨w1.heap.size, 0, none⟩) k k k k ((q' : Int) + 1) zs (zs.set q' x) _ hva hvw Hn.out hls (by omega) (by omega)
      have C2 := zzsame_any (some ⟨w1.heap.size, 0, none⟩) a1 k k k k ((q' : Int) + 1) (zs.set q' x) zs _ hvw hva hls Hn.out (by omega) (by omega)
      have C3 := zzsame_any a1 (some ⟨w1.heap.size, 0, none⟩) k k k k p zs (zs.set q' x) _ hva hvw Hn.out hls (by omega) (by omega)
      have C4 := zzsame_any (some ⟨w1.heap.size, 0, none⟩) a1 k k k k p (zs.set q' x) zs _ hvw hva hls Hn.out (by omega) (by omega)
      rw [sameB_own zs q' x hl] at C1
      rw [sameB_comm, sameB_own zs q' x hl] at C2
      rw [sameB_other zs q' x p hl HP.out] at C3
      rw [sameB_comm, sameB_other zs q' x p hl HP.out] at C4
      subst ha1
      generalize zs.getD q' 0 = z at hc1 hc2 C3 C4
      clear hst hown' hf hvw hva hls hl hvr
      have HB : Hid (Below w1.heap.size w1 (wr.setCell ⟨w1.heap.size, q', none⟩ (.int .u64 x))) := hb3
      clear hb3 hbr
      generalize hwx : wr.setCell ⟨w1.heap.size, q', none⟩ (.int .u64 x) = wx at hc2 C1 C2 C3 C4 HB
      go_wp2_with fail
      refine C1.mono ?_
      rintro e w5 ⟨rfl, rfl⟩
      go_wp2_with fail
      refine C2.mono ?_
      rintro e w6 ⟨rfl, rfl⟩
      go_wp2_with fail
      refine C3.mono ?_
      rintro e w7 ⟨rfl, rfl⟩
      generalize (x == z) = r at C4 ⊢
      go_wp2_with fail
      refine C4.mono ?_
      rintro e w8 ⟨rfl, rfl⟩
      go_wp2
      go_ret
      exact ⟨by simp, hb1.trans (HB.out.mono hb1.size)⟩

end Go.Proofs.Qxb6605399a.fnSameButOneChange
