/-
  SEAT b6606283a: SLICES OF BYTE SLICES, AS THEY ARE READ; THE SMALL WALKS OF THE SPLITTER.
-/
import Derived.Test.Qxb6606283aQuoted
import Derived.Test.Qxb6606283aEnc2
import Derived.Test.Qxb6606283aSplitPlain
namespace Go.Proofs.Qxb6606283a
open Go.RowKit
set_option linter.unusedVariables false

/-- A slice of byte slices at 'a' that reads as 'ws' in 'w'. -/
def WsV (w : World) (a : Option Addr) (ws : List (List Int)) : Prop :=
  ∀ t, t < ws.length → ∃ b off a' c', a = some ⟨b, off, none⟩ ∧ w.cell? ⟨b, off + t, none⟩ = some (.slice a' (ws.getD t []).length c') ∧ (a' = none → c' = 0) ∧ Vw .u8 w a' (ws.getD t [])

theorem WsV.below {w w' : World} {a : Option Addr} {ws : List (List Int)} (h : WsV w a ws) (hb : Below w.heap.size w w') : WsV w' a ws := by
  intro t ht
  obtain ⟨b, off, a', c', ha, hc, hn, hv⟩ := h t ht
  exact ⟨b, off, a', c', ha, (hb.cell (block_lt_of_cell hc)).trans hc, hn, hv.below hb⟩

theorem WsV.drewN {w : World} {a : Option Addr} {ws : List (List Int)} (h : WsV w a ws) (n : Nat) : WsV (w.drewN n) a ws := by
  intro t ht
  obtain ⟨b, off, a', c', ha, hc, hn, hv⟩ := h t ht
  exact ⟨b, off, a', c', ha, hc, hn, hv.drewN n⟩

def wsC (k : Nat) : Int := [32, 9, 10, 11, 12, 13].getD k 0

theorem wsC_at (k : Nat) (h : k < ({ data := #[32, 9, 10, 11, 12, 13] } : ByteArray).size) : ((({ data := #[32, 9, 10, 11, 12, 13] } : ByteArray)[k]'h).toNat : Int) = wsC k := by
  have hk : k < 6 := h
  rcases (show k = 0 ∨ k = 1 ∨ k = 2 ∨ k = 3 ∨ k = 4 ∨ k = 5 from by omega) with rfl | rfl | rfl | rfl | rfl | rfl <;> rfl

theorem wsC_ws {k : Nat} (hk : k < 6) : wsB (wsC k) = true := by
  rcases (show k = 0 ∨ k = 1 ∨ k = 2 ∨ k = 3 ∨ k = 4 ∨ k = 5 from by omega) with rfl | rfl | rfl | rfl | rfl | rfl <;> rfl

theorem wsB_none {b : Int} (h : ∀ j, j < 6 → ¬ b = wsC j) : wsB b = false := by
  have g0 := h 0 (by omega)
  have g1 := h 1 (by omega)
  have g2 := h 2 (by omega)
  have g3 := h 3 (by omega)
  have g4 := h 4 (by omega)
  have g5 := h 5 (by omega)
  simp [wsC] at g0 g1 g2 g3 g4 g5
  exact decide_eq_false (by omega)

set_option maxHeartbeats 400000 in
theorem isSpace_any (x : Int) (w : World) : Calls Try.prog 29 #[.int .u8 x] w fun e w' => e = .returned (.bool (wsB x)) ∧ w' = w := by
  unfold wsB
  go_enter Try.func29, Try.ntmps29
  go_wp2
  all_goals
    go_ret
    refine ⟨ret_bool ?_, rfl⟩
    first | (rw [Bool.eq_iff_iff]; done) | (rw [Bool.eq_iff_iff]; simp <;> omega)

set_option maxHeartbeats 400000 in
theorem isQuote_any (x : Int) (w : World) : Calls Try.prog 23 #[.int .u8 x] w fun e w' => e = .returned (.bool (qtB x)) ∧ w' = w := by
  unfold qtB
  go_enter Try.func23, Try.ntmps23
  go_wp2
  all_goals
    go_ret
    refine ⟨ret_bool ?_, rfl⟩
    first | (rw [Bool.eq_iff_iff]; done) | (rw [Bool.eq_iff_iff]; simp <;> omega)

set_option maxHeartbeats 400000 in
theorem isWS_any (b : Int) (w : World) : Calls Try.prog 22 #[.int .u8 b] w fun e w' => e = .returned (.bool (wsB b)) ∧ w' = w := by
  have hc := wsC_at
  go_enter Try.func22, Try.ntmps22
  go_wp2
  go_loop [3] (fun t => ∃ k : Nat, k ≤ 6 ∧ t = .int .i64 k ∧ ∀ j, j < k → ¬ b = wsC j) (fun t => 6 - (intOf t).toNat)
  case atStart => exact ⟨0, by omega, rfl, fun j hj => by omega⟩
  case round =>
    obtain ⟨k, hk, rfl, hall⟩ := hrel
    have HA : Hid (∀ j, j < k → ¬ b = wsC j) := hall
    clear hall
    by_cases hk6 : k < 6
    · by_cases hbk : b = wsC k
      · have HL : Hid (wsB b = true) := by rw [hbk]; exact wsC_ws hk6
        have hbb : (b == wsC k) = true := beq_iff_eq.2 hbk
        clear hbk
        go_wp2
        go_ret
        exact ⟨by rw [HL.out]; rfl, rfl⟩
      · have hbb : (b == wsC k) = false := beq_eq_false_iff_ne.2 hbk
        have HB : Hid (¬ b = wsC k) := hbk
        clear hbk
        go_wp2
        go_round
        case rel => exact ⟨k + 1, by omega, by go_num, fun j hj => by
          rcases Nat.lt_or_ge j k with h | h
          · exact HA.out j h
          · obtain rfl : j = k := by omega
            exact HB.out⟩
        case measure => simp [intOf]; omega
    · obtain rfl : k = 6 := by omega
      have HL : Hid (wsB b = false) := wsB_none HA.out
      go_wp2
      go_ret
      exact ⟨by rw [HL.out]; rfl, rfl⟩

end Go.Proofs.Qxb6606283a
