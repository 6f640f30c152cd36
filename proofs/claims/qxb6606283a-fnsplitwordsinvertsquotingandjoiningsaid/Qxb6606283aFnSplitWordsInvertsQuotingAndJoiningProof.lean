/-
  THE PROOF OF 'Rows.FnSplitWordsInvertsQuotingAndJoiningSaid': the frame after the seat's own shells (a law whose arguments are read alone), opened for a slice of byte slices; the walk lies in Qxb6606283aWalkSplit.lean.
-/
import Derived.Test.Qxb6606283aRows
import Derived.WalkKit
import Derived.ProofKit
import Derived.OpenShut
import Derived.ShutString
import Derived.ChangeOld
import Derived.Below
import Derived.Deep.Matrix
import Derived.Test.Qxb6606283aWalkSplit
namespace Go.Proofs.Qxb6606283a.fnSplitWordsInvertsQuotingAndJoining
open Go.ChangeShapes Go.WideShapes Go.ChangeAt Go.RowKit
open Go.ChangeMaps (open_string shut_string)
set_option linter.unusedVariables false

theorem own : ownKnob Try.prog.godebug = none := by kernel_rfl
theorem laidOut : laidOutB Try.prog = true := by kernel_rfl

/-- What the walk is told of the mode: its bytes. -/
def ModeIs (w : World) (a : Option Addr) (len : Nat) (zs : List Int) : Prop := Vw .u8 w a zs ∧ zs.length = len ∧ len ≤ maxLen ∧ (∀ n ∈ zs, (Lit.int .u8 n).wf = true)

/-- What the walk is told of the words. -/
def WordsAre (w : World) (a : Option Addr) (len : Nat) (ws : List (List Int)) : Prop :=
  WsV w a ws ∧ ws.length = len ∧ len ≤ maxLen ∧ (∀ t, t < ws.length → (ws.getD t []).length ≤ maxLen ∧ ∀ n ∈ ws.getD t [], (Lit.int .u8 n).wf = true)

theorem walk (a0 : Option Addr) (len0 cap0 : Nat) (ws : List (List Int)) (a1 : Option Addr) (len1 cap1 : Nat) (zs : List Int) (w : World) (w0 : WordsAre w a0 len0 ws) (w1 : ModeIs w a1 len1 zs) :
    Calls Try.prog 5 #[.slice a0 len0 cap0, .slice a1 len1 cap1] w fun e w' => e = .returned (.bool true) ∧ Below w.heap.size w w' := by
  obtain ⟨hv, hn, hb, hall⟩ := w0
  obtain ⟨hM, hm, hmm, hmw⟩ := w1
  by_cases h : len0 ≤ 65536 ∧ len1 ≤ 1048576
  · exact walk_in a0 a1 len0 cap0 len1 cap1 ws zs w hv hM hn hm (fun t ht => (hall t ht).1) (fun t ht x hx => bounds_u8 ((hall t ht).2 x hx)) (fun x hx => bounds_u8 (hmw x hx)) h.1 h.2
  · exact walk_out a0 a1 len0 cap0 len1 cap1 ws w hv hn hb hmm h

theorem words_open {H : Type} {enc : TypeId × Value → H} {W : World} {a0 : Option Addr} {len0 cap0 : Nat} {d : DataW H} {p : List MemPlace} {fuel : Nat}
    (hf : DataW.trod enc Try.prog W 0 (fun _ => true) true fuel 31 (Value.slice a0 len0 cap0).cells.toList = some (d, p)) : ∃ ws, WordsAre W a0 len0 ws := by
  rcases Deep.open_int_rows Try.underlying31 Try.underlying22 Try.underlying5 (by kernel_rfl) (by kernel_rfl) hf with ⟨hcs, _⟩ | ⟨x, l, c, A, L, C, Z, hcs, _, hl, hm, _, hrow⟩
  · simp [Value.cells] at hcs
    obtain ⟨rfl, rfl, rfl⟩ := hcs
    exact ⟨[], fun t ht => absurd ht (by simp), rfl, by unfold maxLen; omega, fun t ht => absurd ht (by simp)⟩
  · simp [Value.cells] at hcs
    obtain ⟨rfl, rfl, rfl⟩ := hcs
    have hget : ∀ t, t < len0 → (((List.range len0).map fun r => (Z r).take (L r)).getD t []) = (Z t).take (L t) := by
      intro t ht
      simp [List.getD, ht]
    refine ⟨(List.range len0).map fun r => (Z r).take (L r), ?_, by simp, by omega, ?_⟩
    · intro t ht
      have ht' : t < len0 := by simpa using ht
      obtain ⟨hc, hlc, hcm, hzl, hzw, hnone, hA⟩ := hrow t (by omega)
      rw [hget t ht']
      have hlen : ((Z t).take (L t)).length = L t := by simp; omega
      obtain ⟨b, off, spot⟩ := x
      have hspot : spot = none := by simpa [Addr.add] using World.cell?_spot (hrow 0 (by omega)).1
      subst hspot
      rw [Addr.add_lit] at hc
      refine ⟨b, off, A t, C t, rfl, by rw [hlen]; exact hc, hnone, ?_⟩
      cases hAt : A t with
      | none =>
        have h0 : L t = 0 := by have := hnone hAt; omega
        rw [h0]
        exact vw_nil _ _ _
      | some a' => exact vw_of_row (by omega) (fun i hi => (hA a' hAt).2 i (by omega))
    · intro t ht
      have ht' : t < len0 := by simpa using ht
      obtain ⟨hc, hlc, hcm, hzl, hzw, _⟩ := hrow t (by omega)
      rw [hget t ht']
      exact ⟨by simp; omega, fun n hn => hzw n (List.mem_of_mem_take hn)⟩

set_option maxRecDepth 100000 in
theorem lifted (os : Os) (started : os.Started) (H : Type) (enc : TypeId × Value → H) :
    ReturnsInHanded {} Try.checked os 5 .any (Rows.fnSplitWordsInvertsQuotingAndJoiningSpec.pre6 enc Try.prog Try.f5 Rows.fnSplitWordsInvertsQuotingAndJoiningRow.domain false) (Rows.fnSplitWordsInvertsQuotingAndJoiningSpec.post enc Try.prog Try.f5 false true false false) := by
  refine returnsInHanded_of_change (C := Try.checked) own started (by kernel_rfl) Try.func5
    (ChangeSpec.witness6 (enc := enc) (C := Try.checked) false ⟨#[], #[.slice none 0 0, .slice none 0 0], []⟩ 8 (by kernel_rfl) (by kernel_rfl) (by kernel_rfl) (by kernel_rfl)) ?_
  intro W base args ds gs before hval0 hW hcnd _
  have hval : ∀ (j : Nat) t v, Try.f5.params[j]? = some t → args[j]? = some v → Value.okWide Try.prog W .any base t v := hval0
  have hW' := hW
  obtain ⟨p, q, hA0, hV, rfl, hfz, hnd⟩ := hW
  have hA : DataW.TrodAll enc Try.prog W 0 (fun _ => true) true Try.f5.params.toList args.toList ds p := hA0
  rw [Try.params5] at hA hval
  obtain ⟨v0, vs0, d0, ds0, p0, q0, hargs, rfl, rfl, h0, r0⟩ := trodAll_cons hA
  obtain ⟨v1, vs1, d1, ds1, p1, q1, rfl, rfl, rfl, h1, r1⟩ := trodAll_cons r0
  obtain ⟨rfl, rfl, rfl⟩ := trodAll_nil r1
  obtain rfl : args = #[v0, v1] := by cases args; simp_all
  obtain ⟨rfl, rfl⟩ := trodVars_none hV
  obtain ⟨a0, len0, cap0, rfl⟩ := okWide_slice Try.underlying31 (hval 0 31 v0 rfl rfl)
  have k0 := h0
  have lt0 : ∀ x ∈ p0, x.block < W.heap.size := by obtain ⟨m, hm⟩ := k0; exact DataW.trod_lt m _ _ _ hm
  obtain ⟨ws, w0⟩ : ∃ ws, WordsAre W a0 len0 ws := by
    obtain ⟨fuel, hf⟩ := h0
    exact words_open hf
  obtain ⟨a1, len1, cap1, rfl⟩ := okWide_slice Try.underlying22 (hval 1 22 v1 rfl rfl)
  have k1 := h1
  have lt1 : ∀ x ∈ p1, x.block < W.heap.size := by obtain ⟨m, hm⟩ := k1; exact DataW.trod_lt m _ _ _ hm
  obtain ⟨z1, w1⟩ : ∃ zs, ModeIs W a1 len1 zs := by
    obtain ⟨fuel, hf⟩ := h1
    rcases open_ints Try.underlying22 Try.underlying5 (by kernel_rfl) hf with ⟨hcs, _⟩ | ⟨x, l, c, zs, hcs, _, hl, hm, hz, _, hcell, hwz⟩
    · simp [Value.cells] at hcs
      obtain ⟨rfl, rfl, rfl⟩ := hcs
      exact ⟨[], vw_nil _ _ _, rfl, by unfold maxLen; omega, by simp⟩
    · simp [Value.cells] at hcs
      obtain ⟨rfl, rfl, rfl⟩ := hcs
      have hz' : zs.length = cap1 := by simpa using hz
      exact ⟨zs.take len1, vw_of_row (by omega) hcell, by simp; omega, by omega, fun n hn => hwz n (List.mem_of_mem_take hn)⟩
  clear hA0 hval0
  refine (walk a0 len0 cap0 ws a1 len1 cap1 z1 W w0 w1).mono fun e W' ⟨he, bel⟩ => ?_
  subst he
  exact ⟨_, rfl, _, _, _, [], _, [], hW', trodAll_mk1 (shut_bool Try.underlying4 _), (trodAll_cons_mk (Below.trod laidOut (by kernel_rfl) (of_decide_eq_true (by kernel_rfl)) k0 bel lt0) (trodAll_cons_mk (Below.trod laidOut (by kernel_rfl) (of_decide_eq_true (by kernel_rfl)) k1 bel lt1) trodAll_mk0)), rfl, bel.frame _, fun h => by cases h⟩

theorem over : Rows.fnSplitWordsInvertsQuotingAndJoiningRow.holds Try.pinned (OpenSpec.ofChange Rows.fnSplitWordsInvertsQuotingAndJoiningSpec) :=
  OpenClaim.holds_of_wide 5 Try.f5 rfl rfl rfl rfl rfl rfl rfl ⟨rfl, rfl, rfl, rfl, rfl⟩ rfl rfl rfl rfl rfl (by kernel_rfl) Try.func5 (by kernel_rfl)
    (of_decide_eq_true (by kernel_rfl)) (by unfold Func.isWrapper; first | (rw [if_pos (by decide +kernel)]; kernel_rfl) | (rw [if_neg (by decide +kernel)]; exact ⟨rfl, rfl⟩))
    (fun os started H enc _ => lifted os started H enc)

/-- THE STATEMENT -/
theorem proved : Rows.FnSplitWordsInvertsQuotingAndJoiningSaid := over
#print axioms proved
end Go.Proofs.Qxb6606283a.fnSplitWordsInvertsQuotingAndJoining
