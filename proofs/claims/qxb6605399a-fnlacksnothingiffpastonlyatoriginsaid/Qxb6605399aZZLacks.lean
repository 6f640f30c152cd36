/-
  SEAT b6605399a: THE WALKS OF 'zzCloneInt' AND 'ZZLacks'.
-/
import Derived.Test.Qxb6605399aLacks
namespace Go.Proofs.Qxb6605399a
open Go.RowKit
set_option linter.unusedVariables false

set_option maxHeartbeats 400000 in
theorem cloneInt_any (a : Option Addr) (n c : Nat) (zs : List Int) (w : World) (hv : Vw .i64 w a zs) (hn : zs.length = n) (hb : n ≤ 1048576) :
    Calls Try.prog 15 #[.slice a n c] w fun e w' => ∃ a', e = .returned (.slice a' n n) ∧ w'.ownsRow w.heap.size 3 1 (.slice a' n n) n (zs.map (.int .i64)) ∧ Below w.heap.size w w' := by
  obtain ⟨i0, hi, hz0, hz1, hz2⟩ := info_parts Try.info3
  have q29 : ∀ (w : World) (a : Option Addr) (n c n' c' : Nat), (binOp .eql 29 (.slice a n c) (.slice none n' c')).run Try.prog w = .ok (.bool a.isNone) w := fun w a n c n' c' => Lib.run_eql_slice_nil w _ _ a n c n' c' Try.underlying29
  cases a with
  | none =>
    have h0 : n = 0 := by
      rcases Nat.eq_zero_or_pos n with h | h
      · exact h
      · obtain ⟨b, off, h', _⟩ := hv 0 (by omega); cases h'
    subst h0
    obtain rfl : zs = [] := List.eq_nil_of_length_eq_zero hn
    clear hn hv
    go_enter Try.func15, Try.ntmps15
    go_wp2
    go_ret
    exact ⟨none, rfl, World.ownsRow_nil _ _ _ _, Below.refl _ _⟩
  | some ad =>
    have Hn : Hid (zs.length = n) := hn
    clear hn
    go_enter Try.func15, Try.ntmps15
    go_wp2_with (at_make; refine wpList_make_full _ rfl _ _ 29 rfl w.heap.size 3 i0 (.int .i64 0) 1 Try.underlying29 hi hz0 hz1 .i64 .i64 _ _ n rfl rfl rfl rfl ?c1 ?c2 ?c3 ?_)
    case c1 => rw [hz2]; omega
    case c2 => unfold maxLen; omega
    case c3 => omega
    intro w1 hown hgrow
    have hb1 : Below w.heap.size w w1 := (Below.refl _ w).grown hgrow (Nat.le_refl _) (by intro k h; cases h)
    have hl : w.heap.size < w1.heap.size := (hown.lt _ rfl).2
    go_wp2
    go_loopw [4] (fun i wr => ∃ (k : Nat) (xs : List Value), k ≤ n ∧ i = .int .i64 k ∧ wr.ownsRow w.heap.size 3 1 (.slice (some ⟨w.heap.size, 0, none⟩) n n) n xs ∧ Filled .i64 zs k xs ∧ Below w.heap.size w wr ∧ w.heap.size < wr.heap.size) (fun i _ => n - (intOf i).toNat)
    case atStart => exact ⟨0, _, Nat.zero_le _, rfl, hown, fun j hj => by omega, hb1, hl⟩
    case round =>
      obtain ⟨k, xs, hk, rfl, hown', hf, hb2, hl2⟩ := hrel
      clear hown hgrow hb1 hl
      by_cases hlt : k < n
      · obtain ⟨b, off, hae, hc, hbl⟩ := hv.lt k (by have := Hn.out; omega)
        obtain rfl := Option.some.inj hae
        obtain ⟨v0, g1, g2, g3⟩ := own_at hown' k hlt
        have hc' : wr.cell? ⟨b, off + k, none⟩ = some (.int .i64 (zs.getD k 0)) := (hb2.cell hbl).trans hc
        have hst := hown'.stored k (.int .i64 (zs.getD k 0))
        have hfs := hf.step (by have := hown'.1; omega)
        have hb3 : Below w.heap.size w (wr.setCell ⟨w.heap.size, k, none⟩ (.int .i64 (zs.getD k 0))) := hb2.setCell (Nat.le_refl _) _
        generalize zs.getD k 0 = z at hc' hst hfs hb3
        clear hc hown' hf hb2
        go_wp2
        go_roundw
        case rel => exact ⟨k + 1, _, by omega, by go_num, hst.1, hfs, hb3, by simpa using hl2⟩
        case measure => simp [intOf]; omega
      · obtain rfl : k = n := by omega
        go_wp2
        go_ret
        exact ⟨_, rfl, by rw [← hf.all (by have := hown'.1; omega) Hn.out]; exact hown', hb2⟩


set_option maxHeartbeats 1000000 in
set_option maxRecDepth 20000 in
theorem zzlacks_any (a0 a : Option Addr) (n0 c0 n c : Nat) (origin seq : Int) (ds zs : List Int) (w : World) (hd : Vw .i64 w a0 ds) (hd1 : ds.length = n0) (hd2 : n0 ≤ 65536) (hdw : ∀ x ∈ ds, (Lit.int .i64 x).wf = true)
    (hv : Vw .u64 w a zs) (hn : zs.length = n) (hb : n ≤ 1048576) (hor : origin ≤ 1048576) (hs1 : 0 ≤ seq) (hs2 : seq < 18446744073709551616) (hz : ∀ j, 0 ≤ zs.getD j 0) :
    Calls Try.prog 16 #[.slice a0 n0 c0, .int .i64 origin, .int .u64 seq, .slice a n c] w fun e w' => ∃ q k, e = .returned (.tuple #[.int .i64 q, .int .u64 k]) ∧ LackSpec zs origin seq q k ∧ Below w.heap.size w w' := by
  have Hn : Hid (zs.length = n) := hn
  have Hd : Hid (ds.length = n0) := hd1
  have hmm := @run_makeMap Try.prog
  have hb0 : Below w.heap.size w (w.alloc (.map #[] 0)) := (Below.refl _ _).alloc (Nat.le_refl _) _
  have hm0 := mapOk_made w
  clear hn hd1
  go_enter Try.func16, Try.ntmps16
  go_wp2
  go_loopw [19] (fun i wr => ∃ (k : Nat), k ≤ n0 ∧ i = .int .i64 k ∧ MapOk wr w.heap.size k ∧ Below w.heap.size w wr) (fun i _ => n0 - (intOf i).toNat)
  case atStart => exact ⟨0, Nat.zero_le _, rfl, hm0, hb0⟩
  case round =>
    clear hm0 hb0
    obtain ⟨k, hk, rfl, hm, hbr⟩ := hrel
    by_cases hlt : k < n0
    · obtain ⟨b, off, ha, hc⟩ := (hd.below hbr) k (by have := Hd.out; omega)
      subst ha
      have hwf : (Lit.int .i64 (ds.getD k 0)).wf = true := by
        have hl : k < ds.length := by have := Hd.out; omega
        have : ds.getD k 0 = ds[k] := by simp [List.getD, hl]
        rw [this]
        exact hdw _ (List.getElem_mem hl)
      generalize ds.getD k 0 = z at hc hwf
      have hm1 := hm.below ((Below.refl wr.heap.size wr).alloc (Nat.le_refl _) (.cells #[.int .u64 0, .map none] 43))
      have hb1 : Below w.heap.size w (wr.alloc (.cells #[.int .u64 0, .map none] 43)) := hbr.alloc hbr.size _
      have hgood := good_ptrR (w := wr.alloc (.cells #[.int .u64 0, .map none] 43)) (v := .pointer (some ⟨wr.heap.size, 0, none⟩)) (Or.inr ⟨_, rfl, by rw [World.cell?_alloc_at _ _ _ _ rfl]; rfl⟩)
      have HM1 : Hid (MapOk (wr.alloc (.cells #[.int .u64 0, .map none] 43)) w.heap.size k) := hm1
      obtain ⟨D, hD⟩ := hm1
      go_wp2_with (at_mapUpdate; refine wpList_mapUpdate_own _ rfl _ _ _ 39 rfl 36 40 (Maps.int_keyed Try.underlying36) Try.underlying39 (ptrR (wr.alloc (.cells #[.int .u64 0, .map none] 43))) w.heap.size k D rfl hD ?n1 (.int .i64 z) (.pointer (some ⟨wr.heap.size, 0, none⟩)) (.int .i64 z) rfl rfl ?hkey (.lit (.bool true)) [] hgood ?_)
      case n1 => unfold maxLen; omega
      case hkey => exact Maps.keyOf_int_mk Try.underlying36 hwf
      intro w2 hown2 hg2
      have hm2 := HM1.out.stored hown2 hg2
      have hb2 : Below w.heap.size w w2 := hb1.grown hg2 (by have := hbr.size; simp; omega) (by intro t ht; cases ht; exact Nat.le_refl _)
      clear hown2 hg2 hD HM1 hgood hb1 hm hbr
      go_wp2
      go_roundw
      case rel => exact ⟨k + 1, by omega, by go_num, hm2, hb2⟩
      case measure => simp [intOf]; omega
    · have hv1 := hv.below hbr
      have hbx : Below wr.heap.size wr (wr.alloc (.cells #[.int .i64 0, .slice none 0 0, .map (some w.heap.size), .slice none 0 0] 47)) := (Below.refl wr.heap.size wr).alloc (Nat.le_refl _) _
      have hc : (wr.alloc (.cells #[.int .i64 0, .slice none 0 0, .map (some w.heap.size), .slice none 0 0] 47)).cell? ⟨wr.heap.size, 2, none⟩ = some (.map (some w.heap.size)) := by
        rw [World.cell?_alloc_at _ _ _ _ rfl]; rfl
      have H := lacks_any a n c wr.heap.size w.heap.size k origin seq zs _ (hv1.below hbx) Hn.out hb hor hs1 hs2 hz hc (hm.below hbx)
      clear hv1 hm hc
      go_wp2_with fail
      refine H.mono ?_
      rintro e w3 ⟨q, m, rfl, hL, hb3⟩
      go_wp2
      go_ret2
      exact ⟨q, m, rfl, hL, (hbr.alloc hbr.size _).trans (hb3.mono (by have := hbr.size; simp; omega))⟩

end Go.Proofs.Qxb6605399a
