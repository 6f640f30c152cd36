/-
  SEAT b6605399a: THE WALKS OF 'sameBut' AND 'ZZVectorSameBut'.
-/
import Derived.Test.Qxb6605399aBase
import Derived.WalkSmall
namespace Go.Proofs.Qxb6605399a
open Go.RowKit
set_option linter.unusedVariables false

/-- What 'sameBut' computes: every id but q holds the same number in both (0 past the end). -/
def sameB (zs ws : List Int) (q : Int) : Bool :=
  (List.range (max zs.length ws.length)).all fun p => ((p : Int) + 1 == q) || (zs.getD p 0 == ws.getD p 0)

theorem sameB_true {zs ws : List Int} {q : Int} (h : ∀ p, p < max zs.length ws.length → (p : Int) + 1 = q ∨ zs.getD p 0 = ws.getD p 0) : sameB zs ws q = true := by
  unfold sameB
  rw [List.all_eq_true]
  intro p hp
  rw [List.mem_range] at hp
  rcases h p hp with e | e
  · simp [e]
  · rw [e]; simp

theorem sameB_iff {zs ws : List Int} {q : Int} : sameB zs ws q = true ↔ ∀ p, p < max zs.length ws.length → (p : Int) + 1 = q ∨ zs.getD p 0 = ws.getD p 0 := by
  constructor
  · intro h p hp
    unfold sameB at h
    rw [List.all_eq_true] at h
    have := h p (List.mem_range.2 hp)
    rw [Bool.or_eq_true, beq_iff_eq, beq_iff_eq] at this
    exact this
  · exact sameB_true

theorem sameB_false {zs ws : List Int} {q : Int} {p : Nat} (hp : p < max zs.length ws.length) (h1 : ¬ (p : Int) + 1 = q) (h2 : ¬ zs.getD p 0 = ws.getD p 0) : sameB zs ws q = false := by
  rw [Bool.eq_false_iff]
  intro h
  rcases sameB_iff.1 h p hp with e | e
  · exact h1 e
  · exact h2 e

set_option maxHeartbeats 400000 in
theorem same_any (a b : Option Addr) (n c m d : Nat) (q : Int) (zs ws : List Int) (w : World) (hv : Vw .u64 w a zs) (hw : Vw .u64 w b ws) (hn : zs.length = n) (hm : ws.length = m) (hb : n ≤ 1048576) (hb2 : m ≤ 1048576) :
    Calls Try.prog 19 #[.slice a n c, .slice b m d, .int .i64 q] w fun e w' => e = .returned (.bool (sameB zs ws q)) ∧ w' = w := by
  have Hn : Hid (zs.length = n) := hn
  have Hm : Hid (ws.length = m) := hm
  clear hn hm
  go_enter Try.func19, Try.ntmps19
  go_wp2
  go_loop [7] (fun i => ∃ (j : Nat), j ≤ max n m ∧ i = .int .i64 ((j : Int) + 1) ∧ ∀ t, t < j → (t : Int) + 1 = q ∨ zs.getD t 0 = ws.getD t 0) (fun i => max n m + 1 - (intOf i).toNat)
  case atStart => exact ⟨0, Nat.zero_le _, rfl, fun t ht => by omega⟩
  case round =>
    obtain ⟨j, hj, rfl, hall⟩ := hrel
    have HA : Hid (∀ t, t < j → (t : Int) + 1 = q ∨ zs.getD t 0 = ws.getD t 0) := hall
    clear hall
    by_cases hlt : j < max n m
    · by_cases hq : (j : Int) + 1 = q
      · have hd : ((j : Int) + 1 != q) = false := by simp [hq]
        have HQ : Hid ((j : Int) + 1 = q) := hq
        clear hq
        go_wp2_with fail
        go_round
        case rel => exact ⟨j + 1, by omega, by go_num, fun t ht => by
          rcases Nat.lt_or_ge t j with h | h
          · exact HA.out t h
          · obtain rfl : t = j := by omega
            exact Or.inl HQ.out⟩
        case measure => simp [intOf]; omega
      · have hd : ((j : Int) + 1 != q) = true := by simpa using hq
        have H1 := at_any a n c ((j : Int) + 1) j rfl zs w hv Hn.out (by omega) (by omega)
        have H2 := at_any b m d ((j : Int) + 1) j rfl ws w hw Hm.out (by omega) (by omega)
        by_cases he : zs.getD j 0 = ws.getD j 0
        · have HE : Hid (zs.getD j 0 = ws.getD j 0) := he
          rw [← he] at H2
          clear he
          generalize hz : zs.getD j 0 = z at H1 H2
          have HZ : Hid (zs.getD j 0 = z) := hz
          clear hz
          go_wp2_with fail
          all_goals
            refine H1.mono ?_
            rintro e w' ⟨rfl, rfl⟩
            go_wp2_with fail
            refine H2.mono ?_
            rintro e w' ⟨rfl, rfl⟩
            go_wp2
            go_round
            case rel => exact ⟨j + 1, by omega, by go_num, fun t ht => by
              rcases Nat.lt_or_ge t j with h | h
              · exact HA.out t h
              · obtain rfl : t = j := by omega
                exact Or.inr HE.out⟩
            case measure => simp [intOf]; omega
        · have HF : Hid (sameB zs ws q = false) := sameB_false (by rw [Hn.out, Hm.out]; exact hlt) hq he
          have hne : (zs.getD j 0 != ws.getD j 0) = true := by simpa using he
          clear he
          generalize zs.getD j 0 = z1 at H1 hne
          generalize ws.getD j 0 = z2 at H2 hne
          go_wp2_with fail
          all_goals
            refine H1.mono ?_
            rintro e w' ⟨rfl, rfl⟩
            go_wp2_with fail
            refine H2.mono ?_
            rintro e w' ⟨rfl, rfl⟩
            go_wp2
            go_ret
            exact ⟨by rw [HF.out]; rfl, rfl⟩
    · have HT : Hid (sameB zs ws q = true) := sameB_true (fun p hp => HA.out p (by rw [Hn.out, Hm.out] at hp; omega))
      go_wp2_with fail
      all_goals
        go_ret
        exact ⟨by rw [HT.out]; rfl, rfl⟩

set_option maxHeartbeats 400000 in
theorem zzsame_any (a b : Option Addr) (n c m d : Nat) (q : Int) (zs ws : List Int) (w : World) (hv : Vw .u64 w a zs) (hw : Vw .u64 w b ws) (hn : zs.length = n) (hm : ws.length = m) (hb : n ≤ 1048576) (hb2 : m ≤ 1048576) :
    Calls Try.prog 12 #[.slice a n c, .slice b m d, .int .i64 q] w fun e w' => e = .returned (.bool (sameB zs ws q)) ∧ w' = w := by
  have H := same_any a b n c m d q zs ws w hv hw hn hm hb hb2
  clear hv hw hn hm
  generalize sameB zs ws q = r at H ⊢
  go_enter Try.func12, Try.ntmps12
  go_wp2_with fail
  refine H.mono ?_
  rintro e w' ⟨rfl, rfl⟩
  go_wp2
  go_ret
  exact ⟨rfl, rfl⟩

end Go.Proofs.Qxb6605399a
