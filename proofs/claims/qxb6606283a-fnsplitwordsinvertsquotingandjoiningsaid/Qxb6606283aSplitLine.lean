/-
  SEAT b6606283a: THE LINE THAT THE LAW BUILDS, AND THAT THE SPLITTER GIVES THE WORDS BACK. Plain.
-/
import Derived.Test.Qxb6606283aSplitWords
namespace Go.Proofs.Qxb6606283a

def sepI (mode : List Int) (t : Nat) : List Int := if t = 0 then [] else [wsC (modeI mode t / 4 % 6).toNat]
def edgeI (mode : List Int) (k : Nat) : List Int := if modeI mode k % 2 = 1 then [wsC (modeI mode (k + 1) % 6).toNat] else []
def styleI (mode : List Int) (t : Nat) : List Int := mode.drop ((t + 1) % mode.length)
def encI (ws : List (List Int)) (mode : List Int) (t : Nat) : List Int := wordEnc (ws.getD t []) (modeI mode t) (styleI mode t)
def lineTo (ws : List (List Int)) (mode : List Int) (k : Nat) : List Int := edgeI mode ws.length ++ (List.range k).flatMap fun t => sepI mode t ++ encI ws mode t
def lineI (ws : List (List Int)) (mode : List Int) : List Int := lineTo ws mode ws.length ++ edgeI mode (ws.length + 2)

/-- The lengths of the first k words. -/
def sumTo (ws : List (List Int)) : Nat → Nat
  | 0 => 0
  | k + 1 => sumTo ws k + (ws.getD k []).length

theorem sumTo_mono (ws : List (List Int)) {j k : Nat} (h : j ≤ k) : sumTo ws j ≤ sumTo ws k := by
  induction h with
  | refl => exact Nat.le_refl _
  | step _ ih => exact Nat.le_trans ih (Nat.le_add_right _ _)

theorem sumTo_at (ws : List (List Int)) {t k : Nat} (h : t < k) : (ws.getD t []).length ≤ sumTo ws k := by
  have h1 : sumTo ws (t + 1) ≤ sumTo ws k := sumTo_mono ws h
  have h2 : sumTo ws (t + 1) = sumTo ws t + (ws.getD t []).length := rfl
  omega

theorem ws6 (x : Int) : wsB (wsC (x % 6).toNat) = true := wsC_ws (by omega)

theorem edge_ws (mode : List Int) (k : Nat) : AllWs (edgeI mode k) := by
  unfold edgeI
  split
  · intro x hx; simp at hx; subst hx; exact ws6 _
  · intro x hx; cases hx

theorem sep_ws (mode : List Int) (t : Nat) : AllWs (sepI mode t) := by
  unfold sepI
  split
  · intro x hx; cases hx
  · intro x hx; simp at hx; subst hx; exact ws6 _

theorem edge_len (mode : List Int) (k : Nat) : (edgeI mode k).length ≤ 1 := by unfold edgeI; split <;> simp
theorem sep_len (mode : List Int) (t : Nat) : (sepI mode t).length ≤ 1 := by unfold sepI; split <;> simp

theorem lineTo_succ (ws : List (List Int)) (mode : List Int) (k : Nat) : lineTo ws mode (k + 1) = lineTo ws mode k ++ (sepI mode k ++ encI ws mode k) := by
  unfold lineTo
  rw [List.range_succ, List.flatMap_append]
  simp

theorem lineTo_len (ws : List (List Int)) (mode : List Int) (k : Nat) : (lineTo ws mode k).length ≤ 1 + 3 * k + 4 * sumTo ws k := by
  induction k with
  | zero => have := edge_len mode ws.length; simp [lineTo, sumTo]; omega
  | succ k ih =>
    rw [lineTo_succ, List.length_append, List.length_append]
    have h1 := sep_len mode k
    have h2 : (encI ws mode k).length ≤ 4 * (ws.getD k []).length + 2 := wordEnc_len _ _ _
    have h3 : sumTo ws (k + 1) = sumTo ws k + (ws.getD k []).length := rfl
    omega

theorem lineI_len (ws : List (List Int)) (mode : List Int) : (lineI ws mode).length ≤ 2 + 3 * ws.length + 4 * sumTo ws ws.length := by
  unfold lineI
  rw [List.length_append]
  have := lineTo_len ws mode ws.length
  have := edge_len mode (ws.length + 2)
  omega

theorem flat_ge (items : List (List Int × List Int × List Int)) (trail : List Int) (h : ∀ x ∈ items, Spells x.2.1 x.2.2) : items.length ≤ (flat items trail).length := by
  induction items with
  | nil => simp
  | cons x items ih =>
    have h1 := ih (fun y hy => h y (by simp [hy]))
    obtain ⟨⟨c, r, hW, _⟩, _⟩ := h x (by simp)
    unfold flat at h1 ⊢
    rw [List.flatMap_cons]
    simp only [List.length_append, List.length_cons] at h1 ⊢
    rw [hW]
    simp only [List.length_cons]
    omega

/-- The splitter inverts quoting and joining. -/
theorem line_split (ws : List (List Int)) (mode : List Int) (hw : ∀ t, t < ws.length → Bytes (ws.getD t [])) : swf ((lineI ws mode).length + 1) ((lineI ws mode).length + 1) (lineI ws mode) = some ws := by
  cases hE : ws with
  | nil =>
    have hl : lineI [] mode = flat [] (edgeI mode 0 ++ edgeI mode 2) := by simp [lineI, lineTo, flat]
    have hws : AllWs (edgeI mode 0 ++ edgeI mode 2) := by
      intro x hx
      rcases List.mem_append.1 hx with h | h
      · exact edge_ws mode 0 x h
      · exact edge_ws mode 2 x h
    have h := swf_flat (N := (lineI [] mode).length + 1) hws [] ((lineI [] mode).length + 1) (by simp) (by simp) (by simp) (by rw [← hl]; omega)
    rw [← hl] at h
    simpa using h
  | cons w0 ws0 =>
    rw [← hE]
    obtain ⟨n, hn⟩ : ∃ n, ws.length = n + 1 := ⟨ws0.length, by rw [hE]; simp⟩
    have hitems : flat ((List.range ws.length).map fun t => ((if t = 0 then edgeI mode ws.length else sepI mode t), encI ws mode t, ws.getD t [])) (edgeI mode (ws.length + 2)) = lineI ws mode := by
      unfold flat lineI lineTo
      rw [hn, List.range_succ_eq_map]
      simp only [List.map_cons, List.flatMap_cons, List.map_map, if_true, List.flatMap_map]
      have e0 : sepI mode 0 = [] := rfl
      rw [e0]
      simp only [List.nil_append, List.append_assoc]
      congr 1
    have hsp : ∀ x ∈ ((List.range ws.length).map fun t => ((if t = 0 then edgeI mode ws.length else sepI mode t), encI ws mode t, ws.getD t [])), AllWs x.1 ∧ Spells x.2.1 x.2.2 := by
      intro x hx
      simp only [List.mem_map, List.mem_range] at hx
      obtain ⟨t, ht, rfl⟩ := hx
      refine ⟨?_, wordEnc_spells (hw t ht)⟩
      simp only
      split
      · exact edge_ws _ _
      · exact sep_ws _ _
    have h := swf_flat (N := (lineI ws mode).length + 1) (edge_ws mode (ws.length + 2)) ((List.range ws.length).map fun t => ((if t = 0 then edgeI mode ws.length else sepI mode t), encI ws mode t, ws.getD t [])) ((lineI ws mode).length + 1) ?_ hsp ?_ (by rw [hitems]; omega)
    · rw [hitems] at h
      rw [h]
      congr 1
      rw [List.map_map]
      apply List.ext_getElem
      · simp
      · intro i h1 h2
        simp [List.getD, h2]
    · have := flat_ge _ (edgeI mode (ws.length + 2)) (fun x hx => (hsp x hx).2)
      rw [hitems] at this
      omega
    · intro x hx
      rw [hn, List.range_succ_eq_map] at hx
      simp only [List.map_cons, List.tail_cons, List.map_map, List.mem_map, List.mem_range, Function.comp] at hx
      obtain ⟨t, ht, rfl⟩ := hx
      simp [sepI]

end Go.Proofs.Qxb6606283a
