/-
  SEAT b6606283a: THE WALK OF 'appendQuoted' AND 'ZZappendQuoted'.
-/
import Derived.Test.Qxb6606283aSmall
import Derived.Deep.RegionHeld3
namespace Go.Proofs.Qxb6606283a
open Go.RowKit
set_option linter.unusedVariables false

/-- What 'appendQuoted' leaves: either the quote is not closed, or the bytes are appended. -/
def QPost (base : Nat) (w : World) (v0 : Value) (zs line : List Int) (i : Nat) (e : Ending) (w' : World) : Prop :=
  (aq (line.getD i 0) (line.length + 1) (line.drop (i + 1)) = none ∧ e = .returned (.tuple #[.slice none 0 0, .int .i64 line.length, .bool false]) ∧ ∃ v, Kept w v0 w' v) ∨
  ∃ bs k v, aq (line.getD i 0) (line.length + 1) (line.drop (i + 1)) = some (bs, k) ∧ e = .returned (.tuple #[v, .int .i64 ((i + 1 + k : Nat) : Int), .bool true]) ∧ Ob base w' v (zs ++ bs) ∧ Kept w v0 w' v

/-- What the loop knows at its head. -/
def QRel (base : Nat) (w : World) (v0 : Value) (zs line : List Int) (i : Nat) (q : Int) (v : Value) (j : Nat) (wr : World) : Prop :=
  ∃ f bs, i + 1 ≤ j ∧ j ≤ line.length ∧ line.length ≤ j + f ∧ bs.length + i + 1 ≤ j ∧ Ob base wr v (zs ++ bs) ∧ Kept w v0 wr v ∧
    aq q (line.length + 1) (line.drop (i + 1)) = (aq q (f + 1) (line.drop j)).map fun r => (bs ++ r.1, (j - (i + 1)) + r.2)

theorem qrel_start {base : Nat} {w : World} {v0 : Value} {zs line : List Int} {i : Nat} {q : Int} (hi : i < line.length) (ho : Ob base w v0 zs) : QRel base w v0 zs line i q v0 (i + 1) w := by
  refine ⟨line.length, [], Nat.le_refl _, by omega, by omega, by simp, by simpa using ho, Kept.refl _ _, ?_⟩
  cases aq q (line.length + 1) (line.drop (i + 1)) with
  | none => rfl
  | some r => simp

/-- A round that emits b and uses up k bytes. -/
theorem qrel_step {base : Nat} {w : World} {v0 : Value} {zs line : List Int} {i : Nat} {q : Int} {v : Value} {j : Nat} {wr : World} {f : Nat} {bs : List Int} {b : Int} {k : Nat} {v' : Value} {w' : World} {n : Nat} (hn : line.length = n)
    (h1 : i + 1 ≤ j) (h2 : j < n) (h3 : n ≤ j + f) (h4 : bs.length + i + 1 ≤ j) (hk : Kept w v0 wr v)
    (ha : aq q (line.length + 1) (line.drop (i + 1)) = (aq q (f + 1) (line.drop j)).map fun r => (bs ++ r.1, (j - (i + 1)) + r.2))
    (ho : one q (line.drop j) = some (some b, k)) (ho' : Ob base w' v' (zs ++ (bs ++ [b]))) (hk' : Kept wr v w' v') : QRel base w v0 zs line i q v' (j + k) w' := by
  obtain ⟨g1, g2, g3, _⟩ := one_le ho
  simp only [List.length_drop] at g2
  cases f with
  | zero => omega
  | succ f =>
    exact ⟨f, bs ++ [b], by omega, by omega, by omega, by simp; omega, ho', hk.trans hk', aq_fwd ha ho h1⟩

theorem kept_new {wr w' : World} {o : Obj} {u v : Value} (hK' : Kept (wr.alloc o).drew u w' v) : Kept wr u w' v := by
  have h1 : Kept wr u (wr.alloc o).drew u := ⟨⟨rfl, rfl, rfl, by simp, fun k hk _ => Below.heap_alloc wr o k hk⟩, Or.inl rfl⟩
  exact h1.trans hK'

theorem kept_cell {wr w' : World} {o : Obj} {u v : Value} {p : Addr} {x : Value} (hK' : Kept (wr.alloc o).drew u w' v) (hub : some p.block ≠ u.ownBlock) (hc : wr.cell? p = some x) : w'.cell? p = some x :=
  (kept_new hK').1.cell hc hub

set_option maxHeartbeats 2000000 in
set_option maxRecDepth 20000 in
theorem quoted_any (base : Nat) (v0 : Value) (a : Option Addr) (n c i : Nat) (zs line : List Int) (w : World) (ho : Ob base w v0 zs) (hbase : base ≤ w.heap.size) (hv : Vw .u8 w a line) (hn : line.length = n)
    (hne : ∀ b off, a = some ⟨b, off, none⟩ → some b ≠ v0.ownBlock) (hi : i < n) (hb : zs.length + n ≤ 1073741824) :
    Calls Try.prog 20 #[v0, .slice a n c, .int .i64 i] w fun e w' => QPost base w v0 zs line i e w' := by
  obtain ⟨b, off, ha, hc0⟩ := hv i (by omega)
  subst ha
  have Hn : Hid (line.length = n) := hn
  have Hne : Hid (some b ≠ v0.ownBlock) := hne b off rfl
  have HS : Hid (QRel base w v0 zs line i (line.getD i 0) v0 (i + 1) w) := qrel_start (by omega) ho
  generalize hq : line.getD i 0 = q at hc0 HS
  have HQ : Hid (line.getD i 0 = q) := hq
  have hii : (0 : Int) ≤ (i : Int) := by omega
  clear hn hne hq
  go_enter Try.func20, Try.ntmps20
  go_wp2
  go_loopw [0, 2] (fun v t wr => ∃ j : Nat, t = .int .i64 j ∧ j ≤ n ∧ QRel base w v0 zs line i q v j wr) (fun _ t _ => n - (intOf t).toNat)
  case atStart => exact ⟨i + 1, by go_num, by omega, HS.out⟩
  case round =>
    clear HS
    obtain ⟨j, rfl, hj, hR⟩ := hrel
    have HR : Hid (QRel base w v0 zs line i q u0 j wr) := hR
    clear hR
    obtain ⟨f, bs, r1, r2, r3, r4, hO, hK, hA⟩ := HR.out
    have HA : Hid (aq q (line.length + 1) (line.drop (i + 1)) = (aq q (f + 1) (line.drop j)).map fun r => (bs ++ r.1, (j - (i + 1)) + r.2)) := hA
    clear hA HR
    have hvr : Vw .u8 wr (some ⟨b, off, none⟩) line := hK.vw hv (fun b' off' h => by cases h; exact Hne.out)
    have hub : Hid (some b ≠ u0.ownBlock) := by
      intro e
      rcases hK.2 with h | ⟨t, h, ht⟩
      · exact Hne.out (e.trans h)
      · rw [h] at e; cases e
        have hb0 := block_lt_of_cell hc0
        simp at hb0; omega
    have hbr : base ≤ wr.heap.size := Nat.le_trans hbase hK.1.size
    have hbd : (zs ++ bs).length + 1 ≤ 1099511627776 := by rw [List.length_append]; have := Hn.out; omega
    rw [Hn.out] at r2 r3
    by_cases hlt : j < n
    · obtain ⟨b1, o1, hb1, hcj⟩ := hvr j (by have := Hn.out; omega)
      cases hb1
      by_cases hcq : line.getD j 0 = q
      · have H1 : Hid (one q (line.drop j) = some (none, 1)) := one_quote (by have := Hn.out; omega) hcq
        rw [hcq] at hcj
        clear hcq
        go_wp2
        go_ret3
        exact Or.inr ⟨bs, j - (i + 1) + 1, u0, by rw [HQ.out]; exact aq_end HA.out H1.out, by rw [show i + 1 + (j - (i + 1) + 1) = j + 1 by omega]; rfl, hO, hK⟩
      · have hcqb : (line.getD j 0 == q) = false := beq_eq_false_iff_ne.2 hcq
        by_cases hl : ¬ line.getD j 0 = 92 ∨ j + 1 = n
        · have H1 : Hid (one q (line.drop j) = some (some (line.getD j 0), 1)) := one_lit (by have := Hn.out; omega) hcq (by rw [Hn.out]; exact hl)
          by_cases hc9 : line.getD j 0 = 92
          · have hjn : ((j : Int) + 1 == (n : Int)) = true := beq_iff_eq.2 (by rcases hl with h | h; exact absurd hc9 h; omega)
            rw [hc9] at hcj hcqb H1
            clear hl hcq hc9
            go_wp2_with (at_builtin; refine wpList_appN wr #[.int .u8 92] rfl _ _ rfl base u0 (zs ++ bs) rfl hO hbr [92] rfl 1 1 rfl (by intro h; cases h) rfl hbd ?_)
            intro v' w' hO' hK'
            go_wp2
            go_roundw
            case rel => exact ⟨j + 1, by go_num, by omega, qrel_step Hn.out r1 hlt r3 r4 hK HA.out H1.out hO' hK'⟩
            case measure => simp [intOf]; omega
          · have hc9b : (line.getD j 0 != 92) = true := by simpa using hc9
            generalize line.getD j 0 = x at hcj hcqb hc9b H1
            clear hl hcq hc9
            go_wp2_with (at_builtin; refine wpList_appN wr #[.int .u8 x] rfl _ _ rfl base u0 (zs ++ bs) rfl hO hbr [x] rfl 1 1 rfl (by intro h; cases h) rfl hbd ?_)
            intro v' w' hO' hK'
            go_wp2
            go_roundw
            case rel => exact ⟨j + 1, by go_num, by omega, qrel_step Hn.out r1 hlt r3 r4 hK HA.out H1.out hO' hK'⟩
            case measure => simp [intOf]; omega
        · have hc9 : line.getD j 0 = 92 := Classical.byContradiction fun h => hl (Or.inl h)
          have hj1 : j + 1 < n := Classical.byContradiction fun h => hl (Or.inr (by omega))
          have hjn : ((j : Int) + 1 == (n : Int)) = false := beq_eq_false_iff_ne.2 (by omega)
          have HC : Hid (line.getD j 0 = 92) := hc9
          have HQ9 : Hid (¬ q = 92) := fun e => hcq (by rw [hc9, e])
          rw [hc9] at hcj hcqb
          clear hl hcq hc9
          obtain ⟨b2, o2, hb2, hc2⟩ := hvr (j + 1) (by have := Hn.out; omega)
          cases hb2
          by_cases hs : q = 39
          · subst hs
            by_cases he : line.getD (j + 1) 0 = 39
            · have H1 : Hid (one 39 (line.drop j) = some (some 39, 2)) := by
                have := one_single (l := line) (j := j) (by have := Hn.out; omega) HC.out
                rw [if_pos he] at this; exact this
              rw [he] at hc2
              clear he
              go_wp2_with (at_builtin; refine wpList_appN wr #[.int .u8 39] rfl _ _ rfl base u0 (zs ++ bs) rfl hO hbr [39] rfl 1 1 rfl (by intro h; cases h) rfl hbd ?_)
              intro v' w' hO' hK'
              go_wp2
              go_roundw
              case rel => exact ⟨j + 2, by go_num, by omega, qrel_step Hn.out r1 hlt r3 r4 hK HA.out H1.out hO' hK'⟩
              case measure => simp [intOf]; omega
            · have H1 : Hid (one 39 (line.drop j) = some (some 92, 1)) := by
                have := one_single (l := line) (j := j) (by have := Hn.out; omega) HC.out
                rw [if_neg he] at this; exact this
              have heb : (line.getD (j + 1) 0 == 39) = false := beq_eq_false_iff_ne.2 he
              generalize line.getD (j + 1) 0 = y at hc2 heb
              clear he
              go_wp2_with (at_builtin; refine wpList_appN wr #[.int .u8 92] rfl _ _ rfl base u0 (zs ++ bs) rfl hO hbr [92] rfl 1 1 rfl (by intro h; cases h) rfl hbd ?_)
              intro v' w' hO' hK'
              go_wp2
              go_roundw
              case rel => exact ⟨j + 1, by go_num, by omega, qrel_step Hn.out r1 hlt r3 r4 hK HA.out H1.out hO' hK'⟩
              case measure => simp [intOf]; omega
          · have hsb : (q == 39) = false := beq_eq_false_iff_ne.2 hs
            by_cases hx : line.getD (j + 1) 0 = 120 ∧ j + 3 < n ∧ hexB (line.getD (j + 2) 0) = true ∧ hexB (line.getD (j + 3) 0) = true
            · obtain ⟨hx1, hx2, hx3, hx4⟩ := hx
              have H1 : Hid (one q (line.drop j) = some (some (16 * unhexI (line.getD (j + 2) 0) + unhexI (line.getD (j + 3) 0)), 4)) := one_hex (by have := Hn.out; omega) HC.out HQ9.out hs hx1 hx3 hx4
              obtain ⟨b3, o3, hb3, hc3⟩ := hvr (j + 2) (by have := Hn.out; omega)
              cases hb3
              obtain ⟨b4, o4, hb4, hc4⟩ := hvr (j + 3) (by have := Hn.out; omega)
              cases hb4
              rw [hx1] at hc2
              generalize line.getD (j + 2) 0 = h1 at hc3 hx3 H1
              generalize line.getD (j + 3) 0 = h2 at hc4 hx4 H1
              have K1 := isHex_any h1 wr
              have K2 := isHex_any h2 wr
              rw [hx3] at K1
              rw [hx4] at K2
              have U1 := unhex_any h1 hx3
              have U2 := unhex_any h2 hx4
              have hu1 := unhex_lt hx3
              have hu2 := unhex_lt hx4
              generalize unhexI h1 = x1 at U1 H1 hu1
              generalize unhexI h2 = x2 at U2 H1 hu2
              rw [← hex_or hu1 hu2] at H1
              clear hx3 hx4 hx1
              go_wp2_with fail
              refine K1.mono ?_
              rintro e w5 ⟨rfl, hw5⟩
              cases hw5
              go_wp2_with fail
              refine K2.mono ?_
              rintro e w5 ⟨rfl, hw5⟩
              cases hw5
              go_wp2_with fail
              have hj2a : (0 : Int) ≤ (j : Int) + 2 := by omega
              have hj2b : (j : Int) + 2 < (n : Int) := by omega
              have hj3a : (0 : Int) ≤ (j : Int) + 3 := by omega
              have hj3b : (j : Int) + 3 < (n : Int) := by omega
              have e2 : IntKind.i64.wrap ((j : Int) + 2) = (j : Int) + 2 := wrap_add j 2 (by omega)
              have e3 : IntKind.i64.wrap ((j : Int) + 3) = (j : Int) + 3 := wrap_add j 3 (by omega)
              have t2 : ((j : Int) + 2).toNat = j + 2 := by omega
              have t3 : ((j : Int) + 3).toNat = j + 3 := by omega
              go_region_held3 (fun w' => w'.cell? ⟨b, off + (j + 2), none⟩ = some (.int .u8 h1) ∧ w'.cell? ⟨b, off + (j + 3), none⟩ = some (.int .u8 h2)) (first | go_keep | exact ⟨kept_cell hK' hub.out hc3, kept_cell hK' hub.out hc4⟩)
                (first | (go_at_call_of 27 (Value.int .u8 h1); refine (U1 _).mono ?_; rintro e w5 ⟨rfl, rfl⟩) | (go_at_call_of 27 (Value.int .u8 h2); refine (U2 _).mono ?_; rintro e w5 ⟨rfl, rfl⟩) | (refine step_app (by rfl) _ _ (by rfl) base u0 (zs ++ bs) (by rfl) (Ob.drew (hO.alloc _)) (by simp; omega) (some ⟨wr.heap.size, 0, none⟩) 1 1 [bits .or .u8 (IntKind.u8.wrap (x1 * 16)) x2] (by rfl) (by intro h; cases h) (Vw.drew (vw_new rfl)) rfl hbd ?_; intro v' w' hO' hK'))
              have hK2 := kept_new hK'
              clear hK' K1 K2 U1 U2 e2 e3 t2 t3 hc3 hc4 hcj hc2 hvr
              go_wp2
              go_roundw
              case rel => exact ⟨j + 4, by go_num, by omega, qrel_step Hn.out r1 hlt r3 r4 hK HA.out H1.out (by rw [← List.append_assoc]; exact hO') hK2⟩
              case measure => simp [intOf]; omega
            · have H1 : Hid (one q (line.drop j) = some (some (unescI (line.getD (j + 1) 0)), 2)) := one_esc (by have := Hn.out; omega) HC.out HQ9.out hs (by rw [Hn.out]; exact hx)
              by_cases hx1 : line.getD (j + 1) 0 = 120
              · rw [hx1] at hc2 H1
                have HU := unescape_any 120 wr
                generalize unescI 120 = z at HU H1
                by_cases hx2 : j + 3 < n
                · obtain ⟨b3, o3, hb3, hc3⟩ := hvr (j + 2) (by have := Hn.out; omega)
                  cases hb3
                  by_cases hx3 : hexB (line.getD (j + 2) 0) = true
                  · obtain ⟨b4, o4, hb4, hc4⟩ := hvr (j + 3) (by have := Hn.out; omega)
                    cases hb4
                    have hx4 : hexB (line.getD (j + 3) 0) = false := by
                      cases h4 : hexB (line.getD (j + 3) 0)
                      · rfl
                      · exact absurd ⟨hx1, hx2, hx3, h4⟩ hx
                    generalize line.getD (j + 2) 0 = h1 at hc3 hx3
                    generalize line.getD (j + 3) 0 = h2 at hc4 hx4
                    have K1 := isHex_any h1 wr
                    have K2 := isHex_any h2 wr
                    rw [hx3] at K1
                    rw [hx4] at K2
                    clear hx hx1 hx3 hx4
                    go_wp2_with fail
                    refine K1.mono ?_
                    rintro e w5 ⟨rfl, hw5⟩
                    cases hw5
                    go_wp2_with fail
                    refine K2.mono ?_
                    rintro e w5 ⟨rfl, hw5⟩
                    cases hw5
                    go_wp2_with fail
                    refine HU.mono ?_
                    rintro e w5 ⟨rfl, hw5⟩
                    cases hw5
                    go_wp2_with (at_builtin; refine wpList_appN wr #[.int .u8 z] rfl _ _ rfl base u0 (zs ++ bs) rfl hO hbr [z] rfl 1 1 rfl (by intro h; cases h) rfl hbd ?_)
                    intro v' w' hO' hK'
                    go_wp2
                    go_roundw
                    case rel => exact ⟨j + 2, by go_num, by omega, qrel_step Hn.out r1 hlt r3 r4 hK HA.out H1.out hO' hK'⟩
                    case measure => simp [intOf]; omega
                  · have hx3' : hexB (line.getD (j + 2) 0) = false := by simpa using hx3
                    generalize line.getD (j + 2) 0 = h1 at hc3 hx3'
                    have K1 := isHex_any h1 wr
                    rw [hx3'] at K1
                    clear hx hx1 hx3 hx3'
                    go_wp2_with fail
                    refine K1.mono ?_
                    rintro e w5 ⟨rfl, hw5⟩
                    cases hw5
                    go_wp2_with fail
                    refine HU.mono ?_
                    rintro e w5 ⟨rfl, hw5⟩
                    cases hw5
                    go_wp2_with (at_builtin; refine wpList_appN wr #[.int .u8 z] rfl _ _ rfl base u0 (zs ++ bs) rfl hO hbr [z] rfl 1 1 rfl (by intro h; cases h) rfl hbd ?_)
                    intro v' w' hO' hK'
                    go_wp2
                    go_roundw
                    case rel => exact ⟨j + 2, by go_num, by omega, qrel_step Hn.out r1 hlt r3 r4 hK HA.out H1.out hO' hK'⟩
                    case measure => simp [intOf]; omega
                · clear hx hx1
                  go_wp2_with fail
                  refine HU.mono ?_
                  rintro e w5 ⟨rfl, hw5⟩
                  cases hw5
                  go_wp2_with (at_builtin; refine wpList_appN wr #[.int .u8 z] rfl _ _ rfl base u0 (zs ++ bs) rfl hO hbr [z] rfl 1 1 rfl (by intro h; cases h) rfl hbd ?_)
                  intro v' w' hO' hK'
                  go_wp2
                  go_roundw
                  case rel => exact ⟨j + 2, by go_num, by omega, qrel_step Hn.out r1 hlt r3 r4 hK HA.out H1.out hO' hK'⟩
                  case measure => simp [intOf]; omega
              · have hx1b : (line.getD (j + 1) 0 == 120) = false := beq_eq_false_iff_ne.2 hx1
                have HU := unescape_any (line.getD (j + 1) 0) wr
                generalize unescI (line.getD (j + 1) 0) = z at HU H1
                generalize line.getD (j + 1) 0 = y at hc2 hx1b HU
                clear hx hx1
                go_wp2_with fail
                refine HU.mono ?_
                rintro e w5 ⟨rfl, hw5⟩
                cases hw5
                go_wp2_with (at_builtin; refine wpList_appN wr #[.int .u8 z] rfl _ _ rfl base u0 (zs ++ bs) rfl hO hbr [z] rfl 1 1 rfl (by intro h; cases h) rfl hbd ?_)
                intro v' w' hO' hK'
                go_wp2
                go_roundw
                case rel => exact ⟨j + 2, by go_num, by omega, qrel_step Hn.out r1 hlt r3 r4 hK HA.out H1.out hO' hK'⟩
                case measure => simp [intOf]; omega
    · have hF : Hid (aq q (line.length + 1) (line.drop (i + 1)) = none) := aq_fail HA.out (by have := Hn.out; omega)
      obtain rfl : j = n := by omega
      go_wp2
      go_ret3
      exact Or.inl ⟨by rw [HQ.out]; exact hF.out, by rw [Hn.out]; rfl, u0, hK⟩

set_option maxHeartbeats 400000 in
theorem zzquoted_any (base : Nat) (v0 : Value) (a : Option Addr) (n c i : Nat) (zs line : List Int) (w : World) (ho : Ob base w v0 zs) (hbase : base ≤ w.heap.size) (hv : Vw .u8 w a line) (hn : line.length = n)
    (hne : ∀ b off, a = some ⟨b, off, none⟩ → some b ≠ v0.ownBlock) (hi : i < n) (hb : zs.length + n ≤ 1073741824) :
    Calls Try.prog 10 #[v0, .slice a n c, .int .i64 i] w fun e w' => QPost base w v0 zs line i e w' := by
  have H := quoted_any base v0 a n c i zs line w ho hbase hv hn hne hi hb
  clear ho hv hne
  have Hn : Hid (line.length = n) := hn
  clear hn
  go_enter Try.func10, Try.ntmps10
  go_wp2_with fail
  refine H.mono ?_
  intro e w' hP
  have HP : Hid (QPost base w v0 zs line i e w') := hP
  clear hP
  rcases HP.out with ⟨h1, h2, h3⟩ | ⟨bs, k, v, h1, h2, h3, h4⟩
  · subst h2
    clear h1
    go_wp2
    go_ret3
    exact HP.out
  · subst h2
    clear h1
    go_wp2
    go_ret3
    exact HP.out

end Go.Proofs.Qxb6606283a
