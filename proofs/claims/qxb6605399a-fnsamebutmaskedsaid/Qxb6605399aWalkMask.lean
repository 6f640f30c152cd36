/-
  SEAT b6605399a: THE WALK OF 'FnSameButMasked'.
-/
import Derived.Test.Qxb6605399aSame
import Derived.Deep.QuietTactic
import Derived.BigQuiet
import Derived.Deep.DeepCutAuto
import Derived.WalkSmall
namespace Go.Proofs.Qxb6605399a.fnSameButMasked
open Go.RowKit
set_option linter.unusedVariables false

set_option maxHeartbeats 400000 in
theorem bytes11_any (a b : Option Addr) (n c m d : Nat) (q : Int) (w : World) (hn : n ≤ maxLen) (hm : m ≤ maxLen) :
    Calls Try.prog 11 #[.slice a n c, .slice b m d, .int .i64 q] w fun e w' => ∃ r : Bool, e = .returned (.bool r) ∧ w' = w ∧ (n ≤ 65536 → m ≤ 65536 → r = true) := by
  unfold maxLen at hn hm
  go_enter Try.func11, Try.ntmps11
  go_wp2
  all_goals
    go_ret
    exact ⟨_, rfl, rfl, fun h1 h2 => by first | rfl | omega⟩

theorem walk_big (a b : Option Addr) (n c m d : Nat) (q : Int) (w : World) (h : ¬ (n ≤ 65536 ∧ m ≤ 65536)) (hn : n ≤ maxLen) (hm : m ≤ maxLen) :
    Calls Try.prog 4 #[.slice a n c, .slice b m d, .int .i64 q] w fun e w' => e = .returned (.bool true) ∧ Below w.heap.size w w' := by
  have H := bytes11_any a b n c m d q w hn hm
  unfold maxLen at hn hm
  by_cases h1 : n ≤ 65536
  · have h2 : ¬ m ≤ 65536 := fun h2 => h ⟨h1, h2⟩
    clear h
    go_enter Try.func4, Try.ntmps4
    go_wp2_with fail
    refine H.mono ?_
    rintro e w' ⟨r, rfl, rfl, -⟩
    cases r
    all_goals
      go_wp2
      go_ret
      exact ⟨rfl, Below.refl _ _⟩
  · clear h
    go_enter Try.func4, Try.ntmps4
    go_wp2_with fail
    refine H.mono ?_
    rintro e w' ⟨r, rfl, rfl, -⟩
    cases r
    all_goals
      go_wp2
      go_ret
      exact ⟨rfl, Below.refl _ _⟩

/-- The cells of a row, by a function of the place. -/
def Cells (xs : List Value) (N : Nat) (f : Nat → Int) : Prop := ∀ j, j < N → xs[j]? = some (.int .u64 (f j))

/-- Two rows of the call's own, side by side. -/
def St (w2 wr : World) (g1 g2 N : Nat) (f h : Nat → Int) : Prop :=
  ∃ xs ys, wr.ownsRow w2.heap.size 25 1 (.slice (some ⟨g1, 0, none⟩) N N) N xs ∧ Cells xs N f ∧
    wr.ownsRow w2.heap.size 25 1 (.slice (some ⟨g2, 0, none⟩) N N) N ys ∧ Cells ys N h ∧ Below w2.heap.size w2 wr

def upd (f : Nat → Int) (i : Nat) (v : Int) : Nat → Int := fun j => if j = i then v else f j

theorem Cells.set {xs : List Value} {N : Nat} {f : Nat → Int} (h : Cells xs N f) (hl : xs.length = N) (i : Nat) (v : Int) : Cells (xs.set i (.int .u64 v)) N (upd f i v) := by
  intro j hj
  by_cases e : j = i
  · subst e; simp [upd, show j < xs.length by omega]
  · rw [List.getElem?_set_ne (by omega), h j hj]; simp [upd, e]

theorem St.swap {w2 wr : World} {g1 g2 N : Nat} {f h : Nat → Int} (s : St w2 wr g1 g2 N f h) : St w2 wr g2 g1 N h f := by
  obtain ⟨xs, ys, a, b, c, d, e⟩ := s
  exact ⟨ys, xs, c, d, a, b, e⟩

theorem St.setA {w2 wr : World} {g1 g2 N : Nat} {f h : Nat → Int} (s : St w2 wr g1 g2 N f h) (hne : g1 ≠ g2) (i : Nat) (v : Int) : St w2 (wr.setCell ⟨g1, i, none⟩ (.int .u64 v)) g1 g2 N (upd f i v) h := by
  obtain ⟨xs, ys, a, b, c, d, e⟩ := s
  obtain ⟨k1, k2⟩ := a.stored i (.int .u64 v)
  refine ⟨_, ys, k1, b.set (by have := a.1; omega) i v, c.kept k2 (Or.inr ?_), d, e.setCell (a.lt g1 rfl).1 _⟩
  simp [Value.ownBlock]; omega

theorem St.setB {w2 wr : World} {g1 g2 N : Nat} {f h : Nat → Int} (s : St w2 wr g1 g2 N f h) (hne : g1 ≠ g2) (i : Nat) (v : Int) : St w2 (wr.setCell ⟨g2, i, none⟩ (.int .u64 v)) g1 g2 N f (upd h i v) :=
  (s.swap.setA (Ne.symm hne) i v).swap

theorem St.congr {w2 wr : World} {g1 g2 N : Nat} {f h f' h' : Nat → Int} (s : St w2 wr g1 g2 N f h) (hf : ∀ j, j < N → f j = f' j) (hh : ∀ j, j < N → h j = h' j) : St w2 wr g1 g2 N f' h' := by
  obtain ⟨xs, ys, a, b, c, d, e⟩ := s
  exact ⟨xs, ys, a, fun j hj => by rw [← hf j hj]; exact b j hj, c, fun j hj => by rw [← hh j hj]; exact d j hj, e⟩

theorem St.drewN {w2 wr : World} {g1 g2 N : Nat} {f h : Nat → Int} (s : St w2 wr g1 g2 N f h) (n : Nat) : St w2 (wr.drewN n) g1 g2 N f h := by
  obtain ⟨xs, ys, a, b, c, d, e⟩ := s
  exact ⟨xs, ys, a, b, c, d, below_drewN e n⟩

theorem St.atA {w2 wr : World} {g1 g2 N : Nat} {f h : Nat → Int} (s : St w2 wr g1 g2 N f h) (j : Nat) (hj : j < N) : wr.cell? ⟨g1, j, none⟩ = some (.int .u64 (f j)) ∧ wr.frozen? ⟨g1, j, none⟩ = false := by
  obtain ⟨xs, ys, a, b, c, d, e⟩ := s
  obtain ⟨v, h1, h2, h3⟩ := own_at a j hj
  rw [b j hj] at h2
  exact ⟨by rw [h1, h2], h3⟩

theorem St.atB {w2 wr : World} {g1 g2 N : Nat} {f h : Nat → Int} (s : St w2 wr g1 g2 N f h) (j : Nat) (hj : j < N) : wr.cell? ⟨g2, j, none⟩ = some (.int .u64 (h j)) ∧ wr.frozen? ⟨g2, j, none⟩ = false := s.swap.atA j hj

theorem St.below {w2 wr : World} {g1 g2 N : Nat} {f h : Nat → Int} (s : St w2 wr g1 g2 N f h) : Below w2.heap.size w2 wr := by
  obtain ⟨xs, ys, a, b, c, d, e⟩ := s
  exact e

theorem cells_made (N : Nat) : Cells (madeCells #[Value.int .u64 0] N).toList N (fun _ => 0) := by
  intro j hj
  rw [toList_madeCells_one]
  simp [hj]

/-- After k rounds of a copying loop. -/
def part (zs : List Int) (k : Nat) : Nat → Int := fun j => if j < k then zs.getD j 0 else 0
theorem part_zero (zs : List Int) (j : Nat) : (0 : Int) = part zs 0 j := by simp [part]
theorem part_succ (zs : List Int) (k j : Nat) : upd (part zs k) k (zs.getD k 0) j = part zs (k + 1) j := by
  unfold upd part
  by_cases e : j = k
  · subst e; simp
  · rw [if_neg e]
    by_cases h : j < k
    · rw [if_pos h, if_pos (by omega)]
    · rw [if_neg h, if_neg (by omega)]
theorem part_all (zs : List Int) (k j : Nat) (h : zs.length ≤ k) : part zs k j = zs.getD j 0 := by
  unfold part
  split
  · rfl
  · simp [List.getD, show zs.length ≤ j by omega]

/-- Blanked at the id q. -/
def mask (zs : List Int) (q : Int) : Nat → Int := fun j => if (j : Int) + 1 = q then 0 else zs.getD j 0

theorem mask_upd (zs : List Int) (p j : Nat) : upd (fun j => zs.getD j 0) p 0 j = mask zs ((p : Int) + 1) j := by
  unfold upd mask
  by_cases e : j = p
  · subst e; simp
  · rw [if_neg e, if_neg (by omega)]

theorem mask_out (zs : List Int) (q : Int) (j N : Nat) (hj : j < N) (h : ¬ (1 ≤ q ∧ q ≤ (N : Int))) : zs.getD j 0 = mask zs q j := by
  unfold mask
  rw [if_neg (by omega)]

/-- The id lies within the padded row. -/
def inB (q : Int) (N : Nat) : Bool := decide (1 ≤ q ∧ q ≤ (N : Int))

/-- What the third loop gathers. -/
def wantB (zs ws : List Int) (q : Int) (k : Nat) : Bool := (List.range k).all fun j => mask zs q j == mask ws q j

theorem wantB_succ (zs ws : List Int) (q : Int) (k : Nat) : wantB zs ws q (k + 1) = (wantB zs ws q k && (mask zs q k == mask ws q k)) := by
  unfold wantB
  rw [List.range_succ]
  simp

theorem wantB_all (zs ws : List Int) (q : Int) : wantB zs ws q (max zs.length ws.length) = sameB zs ws q := by
  rw [Bool.eq_iff_iff, sameB_iff]
  unfold wantB
  rw [List.all_eq_true]
  constructor
  · intro h p hp
    have := h p (List.mem_range.2 hp)
    rw [beq_iff_eq] at this
    unfold mask at this
    by_cases e : (p : Int) + 1 = q
    · exact Or.inl e
    · rw [if_neg e, if_neg e] at this; exact Or.inr this
  · intro h p hp
    rw [beq_iff_eq]
    unfold mask
    rcases h p (List.mem_range.1 hp) with e | e
    · rw [if_pos e, if_pos e]
    · rw [e]

set_option maxHeartbeats 1000000 in
set_option maxRecDepth 20000 in
theorem walk_small (a b : Option Addr) (n c m d : Nat) (q : Int) (zs ws : List Int) (w : World) (hv : Vw .u64 w a zs) (hw : Vw .u64 w b ws) (hn : zs.length = n) (hm : ws.length = m) (h1 : n ≤ 65536) (h2 : m ≤ 65536) :
    Calls Try.prog 4 #[.slice a n c, .slice b m d, .int .i64 q] w fun e w' => e = .returned (.bool true) ∧ Below w.heap.size w w' := by
  obtain ⟨i0, hi, hz0, hz1, hz2⟩ := info_parts Try.info25
  have H := bytes11_any a b n c m d q w (by unfold maxLen; omega) (by unfold maxLen; omega)
  have H9 := clone_any a n c zs w hv hn (by omega)
  have Hn : Hid (zs.length = n) := hn
  have Hm : Hid (ws.length = m) := hm
  clear hn hm
  go_enter Try.func4, Try.ntmps4
  go_wp2_with fail
  refine H.mono ?_
  rintro e w' ⟨r, rfl, rfl, hr⟩
  obtain rfl := hr h1 h2
  clear H hr
  go_wp2_with fail
  refine H9.mono ?_
  rintro e w1 ⟨a1, rfl, hown1, hb1⟩
  have hv1 := own_vw hown1
  have hw1 := hw.below hb1
  clear H9 hown1 hv hw
  go_wp2_with fail
  refine (clone_any b m d ws w1 hw1 Hm.out (by omega)).mono ?_
  rintro e w2 ⟨b2, rfl, hown2, hb2⟩
  have hv2 := hv1.below hb2
  have hw2 := own_vw hown2
  clear hown2 hv1 hw1
  have hbw : Below w'.heap.size w' w2 := hb1.trans (hb2.mono hb1.size)
  clear hb1 hb2
  go_upto_if 34 with fail
  go_cut [7] (fun t wc => t = .int .i64 ((max n m : Nat) : Int) ∧ w2 = wc)
  case first =>
    by_cases hnm : n < m
    · go_wp2
      go_meet
      case rel => exact ⟨by rw [Nat.max_eq_right (by omega)], rfl⟩
    · go_wp2
      go_meet
      case rel => exact ⟨by rw [Nat.max_eq_left (by omega)], rfl⟩
  case rest =>
    obtain ⟨rfl, rfl⟩ := hcut
    obtain ⟨N, hN⟩ : ∃ N, max n m = N := ⟨_, rfl⟩
    have hN1 : n ≤ N := by omega
    have hN2 : m ≤ N := by omega
    have hN3 : N ≤ 65536 := by omega
    rw [hN]
    have HN : Hid (max n m = N) := hN
    clear hN
    go_wp2_with (at_make; refine wpList_make_full _ rfl _ _ 22 rfl w2.heap.size 25 i0 (.int .u64 0) 1 Try.underlying22 hi hz0 hz1 .i64 .i64 _ _ N rfl rfl rfl rfl ?c1 ?c2 ?c3 ?_)
    case c1 => rw [hz2]; omega
    case c2 => unfold maxLen; omega
    case c3 => omega
    intro w3 hownA hg3
    go_wp2_with (at_make; refine wpList_make_full _ rfl _ _ 22 rfl w2.heap.size 25 i0 (.int .u64 0) 1 Try.underlying22 hi hz0 hz1 .i64 .i64 _ _ N rfl rfl rfl rfl ?d1 ?d2 ?d3 ?_)
    case d1 => rw [hz2]; omega
    case d2 => unfold maxLen; omega
    case d3 => exact hg3.size
    intro w4 hownB hg4
    have hlt3 : w2.heap.size < w3.heap.size := (hownA.lt _ rfl).2
    have hne : w2.heap.size ≠ w3.heap.size := by omega
    have hs0 : St w2 w4 w2.heap.size w3.heap.size N (fun _ => 0) (fun _ => 0) :=
      ⟨_, _, hownA.kept hg4 (Or.inr (by simp [Value.ownBlock])), cells_made N, hownB, cells_made N,
        (((Below.refl _ w2).grown hg3 (Nat.le_refl _) (by intro k h; cases h)).grown hg4 (by omega) (by intro k h; cases h))⟩
    clear hownA hownB hg3 hg4
    generalize w3.heap.size = g2 at hs0 hne ⊢
    generalize hg1 : w2.heap.size = g1 at hs0 hne ⊢
    have HG1 : Hid (w2.heap.size = g1) := hg1
    clear hg1
    have hs1 : St w2 w4 g1 g2 N (part zs 0) (part ws 0) := hs0.congr (fun j _ => part_zero zs j) (fun j _ => part_zero ws j)
    clear hs0
    go_wp2
    go_loopw [10] (fun i wr => ∃ (k : Nat), k ≤ n ∧ i = .int .i64 k ∧ St w2 wr g1 g2 N (part zs k) (part ws 0)) (fun i _ => n - (intOf i).toNat)
    case atStart => exact ⟨0, Nat.zero_le _, rfl, hs1⟩
    case round =>
      clear hs1
      obtain ⟨k, hk, rfl, hs⟩ := hrel
      by_cases hlt : k < n
      · obtain ⟨b', off, ha, hc⟩ := (hv2.below hs.below) k (by have := Hn.out; omega)
        subst ha
        obtain ⟨g1c, g1f⟩ := hs.atA k (by omega)
        have hnx : St w2 (wr.setCell ⟨g1, k, none⟩ (.int .u64 (zs.getD k 0))) g1 g2 N (part zs (k + 1)) (part ws 0) := (hs.setA hne k _).congr (fun j _ => part_succ zs k j) (fun j _ => rfl)
        clear hs
        generalize zs.getD k 0 = z at hc hnx
        generalize part zs k k = z' at g1c
        go_wp2
        go_roundw
        case rel => exact ⟨k + 1, by omega, by go_num, hnx⟩
        case measure => simp [intOf]; omega
      · obtain rfl : k = n := by omega
        go_wp2
        go_loopw [11] (fun i wr => ∃ (k' : Nat), k' ≤ m ∧ i = .int .i64 k' ∧ St w2 wr g1 g2 N (part zs k) (part ws k')) (fun i _ => m - (intOf i).toNat)
        case atStart => exact ⟨0, Nat.zero_le _, rfl, hs⟩
        case round =>
          clear hs
          obtain ⟨k', hk', rfl, hs⟩ := hrel
          by_cases hlt' : k' < m
          · obtain ⟨b', off, ha, hc⟩ := (hw2.below hs.below) k' (by have := Hm.out; omega)
            subst ha
            obtain ⟨g1c, g1f⟩ := hs.atB k' (by omega)
            have hnx : St w2 (wr.setCell ⟨g2, k', none⟩ (.int .u64 (ws.getD k' 0))) g1 g2 N (part zs k) (part ws (k' + 1)) := (hs.setB hne k' _).congr (fun j _ => rfl) (fun j _ => part_succ ws k' j)
            clear hs
            generalize ws.getD k' 0 = z at hc hnx
            generalize part ws k' k' = z' at g1c
            go_wp2
            go_roundw
            case rel => exact ⟨k' + 1, by omega, by go_num, hnx⟩
            case measure => simp [intOf]; omega
          · obtain rfl : k' = m := by omega
            have hs' : St w2 wr g1 g2 N (fun j => zs.getD j 0) (fun j => ws.getD j 0) := hs.congr (fun j _ => part_all zs k j (by have := Hn.out; omega)) (fun j _ => part_all ws k' j (by have := Hm.out; omega))
            clear hs
            go_upto_region 22 with fail
            go_cut [73] (fun t wc => t = .bool (inB q N) ∧ wr = wc)
            case first =>
              by_cases hq1 : 1 ≤ q
              · have HB : Hid (inB q N = decide (q ≤ (N : Int))) := by simp [Hid, inB, hq1]
                go_wp2
                go_meet
                case rel => exact ⟨by rw [HB.out], rfl⟩
              · have HB : Hid (inB q N = false) := decide_eq_false (by omega)
                go_wp2
                go_meet
                case rel => exact ⟨by rw [HB.out], rfl⟩
            case rest =>
              obtain ⟨rfl, rfl⟩ := hcut
              go_upto_if 73 with fail
              go_cut [] (fun wc => St w2 wc g1 g2 N (mask zs q) (mask ws q))
              case first =>
                by_cases hq : 1 ≤ q ∧ q ≤ (N : Int)
                · obtain ⟨hq1, hq2⟩ := hq
                  obtain ⟨p, rfl⟩ : ∃ p : Nat, q = (p : Int) + 1 := ⟨(q - 1).toNat, by omega⟩
                  obtain ⟨g1c, g1f⟩ := hs'.atA p (by omega)
                  have hsA := hs'.setA hne p 0
                  obtain ⟨g2c, g2f⟩ := hsA.atB p (by omega)
                  have hsB : St w2 ((wr.setCell ⟨g1, p, none⟩ (.int .u64 0)).setCell ⟨g2, p, none⟩ (.int .u64 0)) g1 g2 N (mask zs ((p : Int) + 1)) (mask ws ((p : Int) + 1)) :=
                    (hsA.setB hne p 0).congr (fun j _ => mask_upd zs p j) (fun j _ => mask_upd ws p j)
                  have hd : inB ((p : Int) + 1) N = true := decide_eq_true ⟨hq1, hq2⟩
                  clear hs' hsA
                  generalize zs.getD p 0 = z1 at g1c
                  generalize ws.getD p 0 = z2 at g2c
                  rw [hd]
                  clear hd
                  go_wp2
                  go_meet
                  case rel => exact hsB
                · have hd : inB q N = false := decide_eq_false hq
                  have hsB : St w2 wr g1 g2 N (mask zs q) (mask ws q) := hs'.congr (fun j hj => mask_out zs q j N hj hq) (fun j hj => mask_out ws q j N hj hq)
                  clear hq hs'
                  rw [hd]
                  clear hd
                  go_wp2
                  go_meet
                  case rel => exact hsB
              case rest =>
                clear hs'
                go_wp2
                go_loopw [12, 13] (fun t i wr => ∃ (k'' : Nat), k'' ≤ N ∧ i = .int .i64 k'' ∧ t = .bool (wantB zs ws q k'') ∧ St w2 wr g1 g2 N (mask zs q) (mask ws q)) (fun _ i _ => N - (intOf i).toNat)
                case atStart => exact ⟨0, Nat.zero_le _, rfl, rfl, hcut⟩
                case round =>
                  clear hcut
                  obtain ⟨k'', hk'', rfl, rfl, hs⟩ := hrel
                  by_cases hlt'' : k'' < N
                  · obtain ⟨g1c, g1f⟩ := hs.atA k'' hlt''
                    obtain ⟨g2c, g2f⟩ := hs.atB k'' hlt''
                    have HW : Hid (wantB zs ws q (k'' + 1) = (wantB zs ws q k'' && (mask zs q k'' == mask ws q k''))) := wantB_succ zs ws q k''
                    generalize mask zs q k'' = z1 at g1c HW
                    generalize mask ws q k'' = z2 at g2c HW
                    have hj0 : (0 : Int) ≤ (k'' : Int) := by omega
                    have hj1 : (k'' : Int) < (N : Int) := by omega
                    by_cases hz : z1 = z2
                    · subst hz
                      go_wp2
                      go_quiet (fail)
                      go_wp2
                      go_roundw
                      case rel => exact ⟨k'' + 1, by omega, by go_num, by rw [HW.out]; simp, hs.drewN _⟩
                      case measure => simp [intOf]; omega
                    · have hzb : (z1 != z2) = true := by simpa using hz
                      go_wp2
                      go_quiet (fail)
                      go_wp2
                      go_roundw
                      case rel => exact ⟨k'' + 1, by omega, by go_num, by rw [HW.out]; simp [hz], hs.drewN _⟩
                      case measure => simp [intOf]; omega
                  · obtain rfl : k'' = N := by omega
                    have HW : Hid (wantB zs ws q k'' = sameB zs ws q) := by
                      rw [← wantB_all, Hn.out, Hm.out, HN.out]
                      rfl
                    have H12 := zzsame_any a1 b2 k k k' k' q zs ws wr (hv2.below hs.below) (hw2.below hs.below) Hn.out Hm.out (by omega) (by omega)
                    rw [← HW.out] at H12
                    generalize wantB zs ws q k'' = r at H12
                    go_wp2_with fail
                    refine H12.mono ?_
                    rintro e w5 ⟨rfl, rfl⟩
                    go_wp2
                    go_ret
                    exact ⟨by simp, hbw.trans (hs.below.mono hbw.size)⟩

end Go.Proofs.Qxb6605399a.fnSameButMasked
