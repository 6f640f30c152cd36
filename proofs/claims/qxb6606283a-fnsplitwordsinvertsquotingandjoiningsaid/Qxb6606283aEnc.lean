/-
  SEAT b6606283a: THE WALKS OF THE ENCODERS: 'b1ModeAt', 'b1HexDigit', 'b1AppendHexEscape', 'b1AppendLetterEscape', 'b1AppendDoubleQuoted', 'b1Concat'.
-/
import Derived.Test.Qxb6606283aSmall
import Derived.Test.Qxb6606283aEncPlain
namespace Go.Proofs.Qxb6606283a
open Go.RowKit
set_option linter.unusedVariables false

set_option maxHeartbeats 400000 in
theorem modeAt_any (a : Option Addr) (n c k : Nat) (m : List Int) (w : World) (hv : Vw .u8 w a m) (hn : m.length = n) (hb : n ≤ 1099511627776) (hk : k ≤ 1099511627776) :
    Calls Try.prog 15 #[.slice a n c, .int .i64 k] w fun e w' => e = .returned (.int .u8 (modeI m k)) ∧ w' = w := by
  unfold modeI
  rw [hn]
  by_cases h0 : n = 0
  · subst h0
    obtain rfl : m = [] := List.eq_nil_of_length_eq_zero hn
    go_enter Try.func15, Try.ntmps15
    go_wp2
    go_ret
    exact ⟨rfl, rfl⟩
  · have hlt : k % n < n := Nat.mod_lt _ (by omega)
    obtain ⟨b, off, ha, hc⟩ := hv (k % n) (by omega)
    subst ha
    have h0b : ((n : Int) == 0) = false := beq_eq_false_iff_ne.2 (by omega)
    have hpos : 0 < n := by omega
    generalize m.getD (k % n) 0 = z at hc
    clear hn hv h0
    go_enter Try.func15, Try.ntmps15
    go_wp2
    go_ret
    exact ⟨rfl, rfl⟩

set_option maxHeartbeats 400000 in
theorem hexDigit_any (x : Int) (u : Bool) (hx : 0 ≤ x ∧ x < 16) (w : World) :
    Calls Try.prog 25 #[.int .u8 x, .bool u] w fun e w' => e = .returned (.int .u8 (hexDig x u)) ∧ w' = w := by
  obtain ⟨h0, h1⟩ := hx
  unfold hexDig
  by_cases h : x < 10
  · rw [if_pos h]
    go_enter Try.func25, Try.ntmps25
    go_wp2
    go_ret
    exact ⟨ret_int (by omega), rfl⟩
  · rw [if_neg h]
    cases u
    · rw [if_neg (by simp)]
      go_enter Try.func25, Try.ntmps25
      go_wp2
      go_ret
      exact ⟨ret_int (by omega), rfl⟩
    · rw [if_pos rfl]
      go_enter Try.func25, Try.ntmps25
      go_wp2
      go_ret
      exact ⟨ret_int (by omega), rfl⟩

/-- What a function that appends leaves. -/
def AppPost (base : Nat) (w : World) (v0 : Value) (zs bs : List Int) (e : Ending) (w' : World) : Prop :=
  ∃ v, e = .returned v ∧ Ob base w' v (zs ++ bs) ∧ Kept w v0 w' v

set_option maxHeartbeats 400000 in
theorem hexEscape_any (base : Nat) (v0 : Value) (zs : List Int) (b : Int) (u1 u2 : Bool) (w : World) (ho : Ob base w v0 zs) (hbase : base ≤ w.heap.size) (hb : 0 ≤ b ∧ b ≤ 255) (hl : zs.length ≤ 1099511627700) :
    Calls Try.prog 18 #[v0, .int .u8 b, .bool u1, .bool u2] w fun e w' => AppPost base w v0 zs (hexEsc b u1 u2) e w' := by
  obtain ⟨hb0, hb1⟩ := hb
  have H1 := hexDigit_any (b / 16) u1 (by omega) w
  have H2 := hexDigit_any (b % 16) u2 (by omega) w
  unfold hexEsc
  generalize hexDig (b / 16) u1 = x at H1
  generalize hexDig (b % 16) u2 = y at H2
  go_enter Try.func18, Try.ntmps18
  go_wp2_with fail
  refine H1.mono ?_
  rintro e w5 ⟨rfl, hw5⟩
  cases hw5
  go_wp2_with fail
  refine H2.mono ?_
  rintro e w5 ⟨rfl, hw5⟩
  cases hw5
  go_wp2_with (at_builtin; refine wpList_appN w #[.int .u8 92, .int .u8 120, .int .u8 x, .int .u8 y] rfl _ _ rfl base v0 zs rfl ho hbase [92, 120, x, y] rfl 4 4 rfl (by intro h; cases h) rfl (by omega) ?_)
  intro v' w' hO' hK'
  go_wp2
  go_ret
  exact ⟨v', rfl, hO', hK'⟩

/-- The two constants of the letter escapes. -/
theorem letterEsc_ctl {b : Int} : (b = 10 → letterEsc b = [92, 110]) ∧ (b = 13 → letterEsc b = [92, 114]) ∧ (b = 9 → letterEsc b = [92, 116]) ∧ (b = 8 → letterEsc b = [92, 98]) ∧ (b = 7 → letterEsc b = [92, 97]) := by
  refine ⟨?_, ?_, ?_, ?_, ?_⟩ <;> (intro h; subst h; rfl)

theorem letterEsc_x : letterEsc 120 = hexEsc 120 false false := rfl

theorem letterEsc_let {b : Int} (h : b = 110 ∨ b = 114 ∨ b = 116 ∨ b = 98 ∨ b = 97) : letterEsc b = hexEsc b true true := by
  rcases h with rfl | rfl | rfl | rfl | rfl <;> rfl

theorem letterEsc_other {b : Int} (h1 : ¬ b = 10) (h2 : ¬ b = 13) (h3 : ¬ b = 9) (h4 : ¬ b = 8) (h5 : ¬ b = 7) (hx : ¬ b = 120) (h : ¬ (b = 110 ∨ b = 114 ∨ b = 116 ∨ b = 98 ∨ b = 97)) : letterEsc b = [92, b] := by
  unfold letterEsc
  rw [if_neg h1, if_neg h2, if_neg h3, if_neg h4, if_neg h5, if_neg hx, if_neg h]

def ctlI (k : Nat) : Int := [10, 13, 9, 8, 7].getD k 0
def lttI (k : Nat) : Int := [110, 114, 116, 98, 97].getD k 0

theorem ctl_at (k : Nat) (h : k < ({ data := #[10, 13, 9, 8, 7] } : ByteArray).size) : ((({ data := #[10, 13, 9, 8, 7] } : ByteArray)[k]'h).toNat : Int) = ctlI k := by
  have hk : k < 5 := h
  rcases (show k = 0 ∨ k = 1 ∨ k = 2 ∨ k = 3 ∨ k = 4 from by omega) with rfl | rfl | rfl | rfl | rfl <;> rfl

theorem let_at (k : Nat) (h : k < ({ data := #[110, 114, 116, 98, 97] } : ByteArray).size) : ((({ data := #[110, 114, 116, 98, 97] } : ByteArray)[k]'h).toNat : Int) = lttI k := by
  have hk : k < 5 := h
  rcases (show k = 0 ∨ k = 1 ∨ k = 2 ∨ k = 3 ∨ k = 4 from by omega) with rfl | rfl | rfl | rfl | rfl <;> rfl

theorem letterEsc_at {b : Int} {k : Nat} (hk : k < 5) (hb : b = ctlI k) : letterEsc b = [92, lttI k] := by
  rcases (show k = 0 ∨ k = 1 ∨ k = 2 ∨ k = 3 ∨ k = 4 from by omega) with rfl | rfl | rfl | rfl | rfl <;> (subst hb; rfl)

theorem letterEsc_let_at {b : Int} {k : Nat} (hk : k < 5) (hb : b = lttI k) : letterEsc b = hexEsc b true true := by
  rcases (show k = 0 ∨ k = 1 ∨ k = 2 ∨ k = 3 ∨ k = 4 from by omega) with rfl | rfl | rfl | rfl | rfl <;> (subst hb; rfl)

theorem letterEsc_none {b : Int} (h1 : ∀ j, j < 5 → ¬ b = ctlI j) (hx : ¬ b = 120) (h2 : ∀ j, j < 5 → ¬ b = lttI j) : letterEsc b = [92, b] := by
  refine letterEsc_other (h1 0 (by omega)) (h1 1 (by omega)) (h1 2 (by omega)) (h1 3 (by omega)) (h1 4 (by omega)) hx ?_
  have g0 := h2 0 (by omega)
  have g1 := h2 1 (by omega)
  have g2 := h2 2 (by omega)
  have g3 := h2 3 (by omega)
  have g4 := h2 4 (by omega)
  simp [lttI] at g0 g1 g2 g3 g4
  omega

set_option maxHeartbeats 1000000 in
theorem letter_any (base : Nat) (v0 : Value) (zs : List Int) (b : Int) (w : World) (ho : Ob base w v0 zs) (hbase : base ≤ w.heap.size) (hb : 0 ≤ b ∧ b ≤ 255) (hl : zs.length ≤ 1099511627700) :
    Calls Try.prog 19 #[v0, .int .u8 b] w fun e w' => AppPost base w v0 zs (letterEsc b) e w' := by
  have H18 := fun u1 u2 => hexEscape_any base v0 zs b u1 u2 w ho hbase hb hl
  have hbd : zs.length + 2 ≤ 1099511627776 := by omega
  have hc := ctl_at
  have hlt := let_at
  go_enter Try.func19, Try.ntmps19
  go_wp2
  go_loop [5] (fun t => ∃ k : Nat, k ≤ 5 ∧ t = .int .i64 k ∧ ∀ j, j < k → ¬ b = ctlI j) (fun t => 5 - (intOf t).toNat)
  case atStart => exact ⟨0, by omega, rfl, fun j hj => by omega⟩
  case round =>
    obtain ⟨k, hk, rfl, hall⟩ := hrel
    have HA : Hid (∀ j, j < k → ¬ b = ctlI j) := hall
    clear hall
    by_cases hk5 : k < 5
    · by_cases hbk : b = ctlI k
      · have HL : Hid (letterEsc b = [92, lttI k]) := letterEsc_at hk5 hbk
        have hbb : (b == ctlI k) = true := beq_iff_eq.2 hbk
        clear hbk
        go_wp2_with (at_builtin; refine wpList_appN w #[.int .u8 92, .int .u8 (lttI k)] rfl _ _ rfl base v0 zs rfl ho hbase [92, lttI k] rfl 2 2 rfl (by intro h; cases h) rfl hbd ?_)
        intro v' w' hO' hK'
        go_wp2
        go_ret
        exact ⟨v', rfl, by rw [HL.out]; exact hO', hK'⟩
      · have hbb : (b == ctlI k) = false := beq_eq_false_iff_ne.2 hbk
        have HB : Hid (¬ b = ctlI k) := hbk
        clear hbk
        go_wp2
        go_round
        case rel => exact ⟨k + 1, by omega, by go_num, fun j hj => by
          rcases Nat.lt_or_ge j k with h | h
          · exact HA.out j h
          · obtain rfl : j = k := by omega
            exact HB.out⟩
        case measure => simp [intOf]; omega
    · obtain rfl : k = 5 := by omega
      by_cases hx : b = 120
      · have hxb : (b == 120) = true := beq_iff_eq.2 hx
        have HL : Hid (letterEsc b = hexEsc b false false) := by rw [hx]; rfl
        have H18' := H18 false false
        clear hx
        go_wp2_with fail
        refine H18'.mono ?_
        rintro e w' ⟨v', rfl, hO', hK'⟩
        go_wp2
        go_ret
        exact ⟨v', rfl, by rw [HL.out]; exact hO', hK'⟩
      · have hxb : (b == 120) = false := beq_eq_false_iff_ne.2 hx
        have HX : Hid (¬ b = 120) := hx
        clear hx
        go_wp2
        go_loop [6] (fun t => ∃ k : Nat, k ≤ 5 ∧ t = .int .i64 k ∧ ∀ j, j < k → ¬ b = lttI j) (fun t => 5 - (intOf t).toNat)
        case atStart => exact ⟨0, by omega, rfl, fun j hj => by omega⟩
        case round =>
          obtain ⟨k, hk', rfl, hall⟩ := hrel
          have HA2 : Hid (∀ j, j < k → ¬ b = lttI j) := hall
          clear hall
          by_cases hk5' : k < 5
          · by_cases hbk : b = lttI k
            · have HL : Hid (letterEsc b = hexEsc b true true) := letterEsc_let_at hk5' hbk
              have hbb : (b == lttI k) = true := beq_iff_eq.2 hbk
              have H18' := H18 true true
              clear hbk
              go_wp2_with fail
              refine H18'.mono ?_
              rintro e w' ⟨v', rfl, hO', hK'⟩
              go_wp2
              go_ret
              exact ⟨v', rfl, by rw [HL.out]; exact hO', hK'⟩
            · have hbb : (b == lttI k) = false := beq_eq_false_iff_ne.2 hbk
              have HB : Hid (¬ b = lttI k) := hbk
              clear hbk
              go_wp2
              go_round
              case rel => exact ⟨k + 1, by omega, by go_num, fun j hj => by
                rcases Nat.lt_or_ge j k with h | h
                · exact HA2.out j h
                · obtain rfl : j = k := by omega
                  exact HB.out⟩
              case measure => simp [intOf]; omega
          · obtain rfl : k = 5 := by omega
            have HL : Hid (letterEsc b = [92, b]) := letterEsc_none HA.out HX.out HA2.out
            go_wp2_with (at_builtin; refine wpList_appN w #[.int .u8 92, .int .u8 b] rfl _ _ rfl base v0 zs rfl ho hbase [92, b] rfl 2 2 rfl (by intro h; cases h) rfl hbd ?_)
            intro v' w' hO' hK'
            go_wp2
            go_ret
            exact ⟨v', rfl, by rw [HL.out]; exact hO', hK'⟩

end Go.Proofs.Qxb6606283a
