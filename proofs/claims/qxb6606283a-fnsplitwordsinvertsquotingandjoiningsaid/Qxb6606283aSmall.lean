/-
  SEAT b6606283a: THE WALKS OF 'b1Clone', 'b1Same', 'isHex', 'unhex', 'unescape'.
-/
import Derived.Test.Qxb6606283aBase
namespace Go.Proofs.Qxb6606283a
open Go.RowKit
set_option linter.unusedVariables false

theorem Try.size5 : (Try.prog.info? 5).map (·.size) = some 1 := by kernel_rfl

/-- 'copy' of a whole slice into a new row of the same length. -/
theorem copy_run {w1 : World} {B g n c : Nat} {ad : Addr} {zs : List Int} {xs : List Value} (hown : w1.ownsRow B 5 1 (.slice (some ⟨g, 0, none⟩) n n) n xs) (hv : Vw .u8 w1 (some ad) zs) (hn : zs.length = n) :
    ∃ w2, (Builtin.copy_ #[22, 22] 3 #[.slice (some ⟨g, 0, none⟩) n n, .slice (some ad) n c]).run Try.prog w1 = .ok (goInt n) w2 ∧ Ob B w2 (.slice (some ⟨g, 0, none⟩) n n) zs ∧ w1.grownBy w2 (some g) := by
  rcases hown.2 with ⟨h', _⟩ | ⟨g', cap, cur, h', hb, hg, hc, hm, hcs, htake⟩
  · cases h'
  · cases h'
    have hmin : n = Nat.min n n := by simp
    have hr := run_copy_row (P := Try.prog) w1 22 22 3 5 g 0 n n ad n c cur 5 (zs.map (.int .u8)) Try.underlying22 Try.size5 hg (by rw [List.length_map, hn]; exact hmin) ?_ (by simp [hcs, hn]) (ints_oneCell _ _)
    · have hall : cur.toList.take 0 ++ zs.map (Value.int .u8) ++ cur.toList.drop (0 + (zs.map (Value.int .u8)).length) = zs.map (Value.int .u8) := by
        rw [List.drop_eq_nil_of_le (by simp [hcs, hn])]; simp
      rw [hall, List.length_map, hn] at hr
      have hs := setRow_heap w1 g cur (zs.map (Value.int .u8)).toArray 5 (0, 0) hg
      refine ⟨w1.setRow g (zs.map (Value.int .u8)).toArray, hr, ?_, ⟨rfl, rfl, rfl, by simp [World.setRow], fun k _ hk => setRow_other w1 g k _ (fun e => hk (by rw [e]))⟩⟩
      refine ⟨by simp, Or.inr ⟨g, n, _, by rw [hn], hb, hs, by omega, hm, by simp [hn], ?_⟩⟩
      rw [List.take_of_length_le (by simp)]
    · intro j u hj
      have hj' : j < zs.length := by
        have := (List.getElem?_eq_some_iff.1 hj).1
        simpa using this
      obtain ⟨b, off, hb', hc'⟩ := hv j hj'
      cases hb'
      rw [Addr.add_lit, hc', ← hj]
      simp [List.getD, hj']

set_option maxHeartbeats 400000 in
theorem clone_any (a : Option Addr) (n c : Nat) (zs : List Int) (w : World) (hv : Vw .u8 w a zs) (hn : zs.length = n) (hb : n ≤ 1099511627776) :
    Calls Try.prog 7 #[.slice a n c] w fun e w' => ∃ a', e = .returned (.slice a' n n) ∧ Ob w.heap.size w' (.slice a' n n) zs ∧ Below w.heap.size w w' := by
  obtain ⟨i0, hi, hz0, hz1, hz2⟩ := info_parts Try.info5
  have q22 : ∀ (w : World) (a : Option Addr) (n c n' c' : Nat), (binOp .eql 22 (.slice a n c) (.slice none n' c')).run Try.prog w = .ok (.bool a.isNone) w := fun w a n c n' c' => Lib.run_eql_slice_nil w _ _ a n c n' c' Try.underlying22
  cases a with
  | none =>
    have h0 : n = 0 := by
      rcases Nat.eq_zero_or_pos n with h | h
      · exact h
      · obtain ⟨b, off, h', _⟩ := hv 0 (by omega); cases h'
    subst h0
    obtain rfl : zs = [] := List.eq_nil_of_length_eq_zero hn
    clear hn hv
    go_enter Try.func7, Try.ntmps7
    go_wp2
    go_ret
    exact ⟨none, rfl, World.ownsRow_nil _ _ _ _, Below.refl _ _⟩
  | some ad =>
    have Hn : Hid (zs.length = n) := hn
    clear hn
    go_enter Try.func7, Try.ntmps7
    go_wp2_with (at_make; refine wpList_make_full _ rfl _ _ 22 rfl w.heap.size 5 i0 (.int .u8 0) 1 Try.underlying22 hi hz0 hz1 .i64 .i64 _ _ n rfl rfl rfl rfl ?c1 ?c2 ?c3 ?_)
    case c1 => rw [hz2]; omega
    case c2 => unfold maxLen; omega
    case c3 => omega
    intro w1 hown hgrow
    have hb1 : Below w.heap.size w w1 := (Below.refl _ w).grown hgrow (Nat.le_refl _) (by intro k h; cases h)
    have hv1 := hv.below hb1
    obtain ⟨w2, hrun, ho2, hg2⟩ := copy_run (c := c) hown hv1 Hn.out
    have hb2 : Below w.heap.size w w2 := hb1.grown hg2 hb1.size (by intro k h; cases h; exact Nat.le_refl _)
    clear hown hgrow hv1 hg2 hb1
    go_wp2
    go_ret
    exact ⟨_, rfl, ho2, hb2⟩

theorem drewN_add {w wr : World} {k : Nat} (h : Hid (wr = w.drewN k)) (n : Nat) : Hid (wr.drewN n = w.drewN (k + n)) := by
  have := h.out
  subst this
  simp [Hid, World.drewN, Nat.add_assoc]

/-- What 'b1Same' computes. -/
theorem list_eq_of_getD {xs ys : List Int} (hl : xs.length = ys.length) (h : ∀ j, j < xs.length → xs.getD j 0 = ys.getD j 0) : xs = ys := by
  apply List.ext_getElem hl
  intro j h1 h2
  have := h j h1
  simpa [List.getD, h1, h2] using this

set_option maxHeartbeats 400000 in
theorem same_any (a b : Option Addr) (n c m d : Nat) (xs ys : List Int) (w : World) (hv : Vw .u8 w a xs) (hw : Vw .u8 w b ys) (hn : xs.length = n) (hm : ys.length = m) (hb : n ≤ 1099511627776) (hb2 : m ≤ 1099511627776) :
    Calls Try.prog 11 #[.slice a n c, .slice b m d] w fun e w' => e = .returned (.bool (decide (xs = ys))) ∧ ∃ k, w' = w.drewN k := by
  have Hn : Hid (xs.length = n) := hn
  have Hm : Hid (ys.length = m) := hm
  by_cases hnm : n = m
  · subst hnm
    clear hn hm
    go_enter Try.func11, Try.ntmps11
    go_wp2
    go_loopw [5] (fun i wr => ∃ (j k : Nat), j ≤ n ∧ i = .int .i64 j ∧ (∀ t, t < j → xs.getD t 0 = ys.getD t 0) ∧ Vw .u8 wr a xs ∧ Vw .u8 wr b ys ∧ Hid (wr = w.drewN k)) (fun i _ => n - (intOf i).toNat)
    case atStart => exact ⟨0, 0, Nat.zero_le _, rfl, fun t ht => by omega, hv, hw, rfl⟩
    case round =>
      clear hv hw
      obtain ⟨j, k, hj, rfl, hall, hv, hw, hwr⟩ := hrel
      have HA : Hid (∀ t, t < j → xs.getD t 0 = ys.getD t 0) := hall
      clear hall
      by_cases hlt : j < n
      · obtain ⟨b1, o1, ha, hc1⟩ := hv j (by have := Hn.out; omega)
        obtain ⟨b2, o2, hb', hc2⟩ := hw j (by have := Hm.out; omega)
        subst ha hb'
        have hj0 : (0 : Int) ≤ (j : Int) := by omega
        have hj1 : (j : Int) < (n : Int) := by omega
        by_cases he : xs.getD j 0 = ys.getD j 0
        · have HE : Hid (xs.getD j 0 = ys.getD j 0) := he
          rw [he] at hc1
          clear he
          generalize ys.getD j 0 = z at hc1 hc2
          go_wp2
          go_quiet (fail)
          go_wp2
          go_roundw
          case rel => exact ⟨j + 1, k + nq, by omega, by go_num, (fun t ht => by
            rcases Nat.lt_or_ge t j with h | h
            · exact HA.out t h
            · obtain rfl : t = j := by omega
              exact HE.out), hv.drewN _, hw.drewN _, drewN_add hwr _⟩
          case measure => simp [intOf]; omega
        · have HF : Hid (decide (xs = ys) = false) := decide_eq_false (fun e => he (by rw [e]))
          have hne : (xs.getD j 0 != ys.getD j 0) = true := by simpa using he
          clear he
          generalize xs.getD j 0 = z1 at hc1 hne
          generalize ys.getD j 0 = z2 at hc2 hne
          go_wp2
          go_quiet (fail)
          go_wp2
          go_ret
          exact ⟨by rw [HF.out]; rfl, k + nq, drewN_add hwr _⟩
      · have HT : Hid (decide (xs = ys) = true) := decide_eq_true (list_eq_of_getD (by rw [Hn.out, Hm.out]) (fun t ht => HA.out t (by have := Hn.out; omega)))
        go_wp2
        go_ret
        exact ⟨by rw [HT.out]; rfl, k, hwr.out⟩
  · have HF : Hid (decide (xs = ys) = false) := decide_eq_false (fun e => hnm (by rw [← hn, ← hm, e]))
    have hne : ((n : Int) != (m : Int)) = true := by simp; omega
    clear hn hm
    go_enter Try.func11, Try.ntmps11
    go_wp2
    go_ret
    exact ⟨by rw [HF.out]; rfl, 0, rfl⟩

theorem ret_bool {a b : Bool} (h : a = b) : Ending.returned (.bool a) = .returned (.bool b) := by rw [h]
theorem ret_int {k : IntKind} {a b : Int} (h : a = b) : Ending.returned (.int k a) = .returned (.int k b) := by rw [h]

set_option maxHeartbeats 400000 in
theorem isHex_any (x : Int) (w : World) : Calls Try.prog 26 #[.int .u8 x] w fun e w' => e = .returned (.bool (hexB x)) ∧ w' = w := by
  unfold hexB
  go_enter Try.func26, Try.ntmps26
  go_wp2
  all_goals
    go_ret
    refine ⟨ret_bool ?_, rfl⟩
    first | (rw [Bool.eq_iff_iff]; done) | (rw [Bool.eq_iff_iff]; simp <;> omega)

set_option maxHeartbeats 400000 in
theorem unhex_any (x : Int) (h : hexB x = true) (w : World) : Calls Try.prog 27 #[.int .u8 x] w fun e w' => e = .returned (.int .u8 (unhexI x)) ∧ w' = w := by
  have h' : (48 ≤ x ∧ x ≤ 57) ∨ (97 ≤ x ∧ x ≤ 102) ∨ (65 ≤ x ∧ x ≤ 70) := of_decide_eq_true h
  clear h
  unfold unhexI
  rcases h' with h' | h' | h'
  all_goals
    go_enter Try.func27, Try.ntmps27
    go_wp2
    go_ret
    refine ⟨ret_int ?_, rfl⟩
    omega

theorem unhex_lt {x : Int} (h : hexB x = true) : 0 ≤ unhexI x ∧ unhexI x < 16 := by
  have h' : (48 ≤ x ∧ x ≤ 57) ∨ (97 ≤ x ∧ x ≤ 102) ∨ (65 ≤ x ∧ x ≤ 70) := of_decide_eq_true h
  unfold unhexI
  omega

theorem or16 : ∀ a b : Fin 16, (a.val * 16 ||| b.val) = a.val * 16 + b.val := by decide

theorem hex_or {x y : Int} (hx : 0 ≤ x ∧ x < 16) (hy : 0 ≤ y ∧ y < 16) : bits .or .u8 (IntKind.u8.wrap (x * 16)) y = 16 * x + y := by
  have e : IntKind.u8.wrap (x * 16) = x * 16 := by rw [IntKind.wrap_u8]; omega
  rw [e, u8_or _ _ (by omega) (by omega) (by omega) (by omega)]
  have h := or16 ⟨x.toNat, by omega⟩ ⟨y.toNat, by omega⟩
  have e2 : (x * 16).toNat = x.toNat * 16 := by omega
  rw [e2]
  simp only at h
  rw [h]
  omega

theorem wrap_add (j k : Nat) (h : j + k ≤ 9223372036854775807) : IntKind.i64.wrap ((j : Int) + (k : Int)) = (j : Int) + (k : Int) := by
  rw [IntKind.wrap_i64]; omega

set_option maxHeartbeats 400000 in
theorem unescape_any (x : Int) (w : World) : Calls Try.prog 28 #[.int .u8 x] w fun e w' => e = .returned (.int .u8 (unescI x)) ∧ w' = w := by
  unfold unescI
  go_enter Try.func28, Try.ntmps28
  go_wp2
  all_goals
    go_ret
    exact ⟨by simp_all, rfl⟩

end Go.Proofs.Qxb6606283a
