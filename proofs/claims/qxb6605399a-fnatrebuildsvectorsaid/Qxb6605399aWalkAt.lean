/-
  SEAT b6605399a: THE WALK OF 'FnAtRebuildsVector'.
-/
import Derived.Test.Qxb6605399aBase
import Derived.Deep.QuietTactic
import Derived.BigQuiet
import Derived.WalkSmall
namespace Go.Proofs.Qxb6605399a.fnAtRebuildsVector
open Go.RowKit
set_option linter.unusedVariables false

theorem walk_big (a : Option Addr) (n c : Nat) (w : World) (h : ¬ n ≤ 131072) (hm : n ≤ maxLen) :
    Calls Try.prog 3 #[.slice a n c] w fun e w' => e = .returned (.bool true) ∧ Below w.heap.size w w' := by
  have H := bytes8_any a n c w hm
  unfold maxLen at hm
  by_cases h2 : n ≤ 1048576
  · rw [decide_eq_true h2] at H
    go_enter Try.func3, Try.ntmps3
    go_wp2_with fail
    refine H.mono ?_
    rintro e w' ⟨rfl, rfl⟩
    go_wp2
    go_ret
    exact ⟨rfl, Below.refl _ _⟩
  · rw [decide_eq_false h2] at H
    go_enter Try.func3, Try.ntmps3
    go_wp2_with fail
    refine H.mono ?_
    rintro e w' ⟨rfl, rfl⟩
    go_wp2
    go_ret
    exact ⟨rfl, Below.refl _ _⟩

theorem walk_small (a : Option Addr) (n c : Nat) (zs : List Int) (w : World) (hv : Vw .u64 w a zs) (hn : zs.length = n) (hb : n ≤ 131072) :
    Calls Try.prog 3 #[.slice a n c] w fun e w' => e = .returned (.bool true) ∧ Below w.heap.size w w' := by
  obtain ⟨i0, hi, hz0, hz1, hz2⟩ := info_parts Try.info25
  have H := bytes8_any a n c w (by unfold maxLen; omega)
  rw [decide_eq_true (by omega)] at H
  have H9 := clone_any a n c zs w hv hn (by omega)
  have Hn : Hid (zs.length = n) := hn
  clear hn hv
  go_enter Try.func3, Try.ntmps3
  go_wp2_with fail
  refine H.mono ?_
  rintro e w' ⟨rfl, rfl⟩
  clear H
  go_wp2_with fail
  refine H9.mono ?_
  rintro e w1 ⟨a1, rfl, hown1, hb1⟩
  clear H9
  have hv1 := own_vw hown1
  clear hown1
  go_wp2_with (at_make; refine wpList_make_full _ rfl _ _ 22 rfl w1.heap.size 25 i0 (.int .u64 0) 1 Try.underlying22 hi hz0 hz1 .i64 .i64 _ _ n rfl rfl rfl rfl ?c1 ?c2 ?c3 ?_)
  case c1 => rw [hz2]; omega
  case c2 => unfold maxLen; omega
  case c3 => omega
  intro w2 hown hgrow
  have hb2 : Below w1.heap.size w1 w2 := (Below.refl _ w1).grown hgrow (Nat.le_refl _) (by intro k h; cases h)
  go_wp2
  go_loopw [4] (fun i wr => ∃ (k : Nat) (xs : List Value), k ≤ n ∧ i = .int .i64 k ∧ wr.ownsRow w1.heap.size 25 1 (.slice (some ⟨w1.heap.size, 0, none⟩) n n) n xs ∧ Filled .u64 zs k xs ∧ Below w1.heap.size w1 wr) (fun i _ => n - (intOf i).toNat)
  case atStart => exact ⟨0, _, Nat.zero_le _, rfl, hown, fun j hj => by omega, hb2⟩
  case round =>
    obtain ⟨k, xs, hk, rfl, hown', hf, hbr⟩ := hrel
    clear hown hgrow hb2
    have hvr := hv1.below hbr
    by_cases hlt : k < n
    · have H10 := zzat_any a1 n n ((k : Int) + 1) k rfl zs wr hvr Hn.out (by omega) (by omega)
      obtain ⟨v0, g1, g2, g3⟩ := own_at hown' k hlt
      have hst := hown'.stored k (.int .u64 (zs.getD k 0))
      have hfs := hf.step (by have := hown'.1; omega)
      have hb3 : Below w1.heap.size w1 (wr.setCell ⟨w1.heap.size, k, none⟩ (.int .u64 (zs.getD k 0))) := hbr.setCell (Nat.le_refl _) _
      generalize zs.getD k 0 = z at H10 hst hfs hb3
      clear hown' hf hbr
      go_wp2_with fail
      refine H10.mono ?_
      rintro e w' ⟨rfl, rfl⟩
      go_wp2
      go_roundw
      case rel => exact ⟨k + 1, _, by omega, by go_num, hst.1, hfs, hb3⟩
      case measure => simp [intOf]; omega
    · obtain rfl : k = n := by omega
      have hvw : Vw .u64 wr (some ⟨w1.heap.size, 0, none⟩) zs := by
        rw [hf.all (by have := hown'.1; omega) Hn.out] at hown'
        exact own_vw hown'
      clear hown' hf hvr
      go_wp2
      go_loopw [5] (fun i ws => ∃ (j : Nat), j ≤ k ∧ i = .int .i64 j ∧ Vw .u64 ws (some ⟨w1.heap.size, 0, none⟩) zs ∧ Below w1.heap.size w1 ws) (fun i _ => k - (intOf i).toNat)
      case atStart => exact ⟨0, Nat.zero_le _, rfl, hvw, hbr⟩
      case round =>
        clear hvw hbr
        obtain ⟨j, hj, rfl, hvw, hbr⟩ := hrel
        have hvr := hv1.below hbr
        by_cases hlt' : j < k
        · obtain ⟨b, off, ha1, hc1⟩ := hvr j (by have := Hn.out; omega)
          obtain ⟨b', off', hae, hc2⟩ := hvw j (by have := Hn.out; omega)
          simp at hae
          obtain ⟨rfl, rfl⟩ := hae
          subst ha1
          rw [Nat.zero_add] at hc2
          generalize zs.getD j 0 = z at hc1 hc2
          have hj0 : (0 : Int) ≤ (j : Int) := by omega
          have hj1 : (j : Int) < (k : Int) := by omega
          go_wp2
          go_quiet (fail)
          go_wp2
          go_roundw
          case rel => exact ⟨j + 1, by omega, by go_num, hvw.drewN _, below_drewN hbr _⟩
          case measure => simp [intOf]; omega
        · obtain rfl : j = k := by omega
          clear hvw
          go_wp2
          go_loopw [6] (fun i ws => ∃ (m : Nat), m ≤ 64 ∧ i = .int .i64 ((m : Int) + 1) ∧ Below w1.heap.size w1 ws) (fun i _ => 65 - (intOf i).toNat)
          case atStart => exact ⟨0, by omega, rfl, hbr⟩
          case round =>
            clear hbr hvr
            obtain ⟨m, hm, rfl, hbr⟩ := hrel
            have hvr := hv1.below hbr
            by_cases hlt3 : m < 64
            · have H10 := zzat_any a1 j j ((j : Int) + ((m : Int) + 1)) (j + m) (by omega) zs wr hvr Hn.out (by omega) (by omega)
              have hz : zs.getD (j + m) 0 = 0 := by
                have := Hn.out
                simp [List.getD, show zs.length ≤ j + m by omega]
              rw [hz] at H10
              clear hvr hz
              go_wp2_with fail
              refine H10.mono ?_
              rintro e w' ⟨rfl, rfl⟩
              go_wp2
              go_roundw
              case rel => exact ⟨m + 1, by omega, by go_num, hbr⟩
              case measure => simp [intOf]; omega
            · obtain rfl : m = 64 := by omega
              go_wp2
              go_ret
              exact ⟨rfl, hb1.trans (hbr.mono hb1.size)⟩

end Go.Proofs.Qxb6605399a.fnAtRebuildsVector
