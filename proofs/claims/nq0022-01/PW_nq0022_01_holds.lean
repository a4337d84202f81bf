import PyProof.Rows.All
import Wide.All
import OpenK.AllK
import Wide.FinOn
import Lean
import PySem.Challenge.RW_nq0022_01
set_option Elab.async false
set_option linter.unusedSimpArgs false
set_option linter.unusedVariables false
namespace Mine
open PySem PySem.W PyProof.Rows
set_option maxRecDepth 100000 in
set_option maxHeartbeats 8000000 in
open_top hd for PySem.Challenge.rw_nq0022_01
end Mine
section
namespace Mine
/-- the heap's order, but for the place p against the one above it -/
def HeapBut (xs : List Int) (p : Nat) : Prop :=
  (∀ i, 1 ≤ i → i < xs.length → i ≠ p → xs.getD ((i - 1) / 2) 0 ≤ xs.getD i 0) ∧
  (∀ c, 1 ≤ c → c < xs.length → 1 ≤ p → (c - 1) / 2 = p → xs.getD ((p - 1) / 2) 0 ≤ xs.getD c 0)
def IsHeap (xs : List Int) : Prop := ∀ i, 1 ≤ i → i < xs.length → xs.getD ((i - 1) / 2) 0 ≤ xs.getD i 0
/-- the heap's order with a hole at p -/
def HeapHole (xs : List Int) (p : Nat) : Prop :=
  (∀ i, 1 ≤ i → i < xs.length → i ≠ p → (i - 1) / 2 ≠ p → xs.getD ((i - 1) / 2) 0 ≤ xs.getD i 0) ∧
  (∀ c, 1 ≤ c → c < xs.length → 1 ≤ p → (c - 1) / 2 = p → xs.getD ((p - 1) / 2) 0 ≤ xs.getD c 0)

theorem getD_set (xs : List Int) (i j : Nat) (v : Int) : (xs.set i v).getD j 0 = if i = j ∧ i < xs.length then v else xs.getD j 0 := by
  simp only [List.getD_eq_getElem?_getD, List.getElem?_set]
  by_cases h : i = j
  · subst h
    by_cases h2 : i < xs.length
    · simp [h2]
    · simp [h2]
  · simp [h]
theorem getD_set_ne {xs : List Int} {i j : Nat} {v : Int} (h : i ≠ j) : (xs.set i v).getD j 0 = xs.getD j 0 := by
  rw [getD_set, if_neg (fun q => h q.1)]
theorem getD_set_eq {xs : List Int} {i : Nat} {v : Int} (h : i < xs.length) : (xs.set i v).getD i 0 = v := by
  rw [getD_set, if_pos ⟨rfl, h⟩]
theorem set_getD_self (xs : List Int) (i : Nat) : xs.set i (xs.getD i 0) = xs := by
  apply List.ext_getElem?
  intro j
  rw [List.getElem?_set]
  by_cases h : i = j
  · subst h
    by_cases h2 : i < xs.length
    · simp [h2]
    · simp [h2]
  · simp [h]
theorem swap_perm {xs : List Int} {i j : Nat} (hi : i < xs.length) (hj : j < xs.length) : ((xs.set i (xs.getD j 0)).set j (xs.getD i 0)).Perm xs := by
  have e1 : xs.getD j 0 = xs[j] := by simp [hj]
  have e2 : xs.getD i 0 = xs[i] := by simp [hi]
  rw [e1, e2]
  exact List.set_set_perm hi hj
/-- the swap, with x hanging over the place p -/
theorem hang_perm {xs : List Int} {p q : Nat} {x : Int} (hp : p < xs.length) (hq : q < xs.length) (hne : p ≠ q) : ((xs.set p (xs.getD q 0)).set q x).Perm (xs.set p x) := by
  have h := swap_perm (xs := xs.set p x) (i := p) (j := q) (by simpa using hp) (by simpa using hq)
  rw [getD_set_eq hp, getD_set_ne hne, List.set_set] at h
  exact h
theorem hangBut_up {xs : List Int} {p : Nat} {x : Int} (hp : p < xs.length) (h0 : 0 < p) (hB : HeapBut (xs.set p x) p) (hx : x < xs.getD ((p - 1) / 2) 0) :
    HeapBut ((xs.set p (xs.getD ((p - 1) / 2) 0)).set ((p - 1) / 2) x) ((p - 1) / 2) := by
  obtain ⟨h1, h2⟩ := hB
  simp only [List.length_set, getD_set] at h1 h2
  have hq : (p - 1) / 2 < xs.length := by omega
  generalize hqe : (p - 1) / 2 = q at *
  have hne : p ≠ q := by omega
  refine ⟨fun i hi hl hi2 => ?_, fun c hc hl hp1 hcp => ?_⟩
  · simp only [List.length_set, getD_set] at hl ⊢
    have a1 := h1 i hi hl
    have a2 := h2 i hi hl (by omega)
    generalize hj : (i - 1) / 2 = j at *
    by_cases hip : i = p
    · subst hip
      have : j = q := by omega
      subst this
      simp only [hq, hp, hne, Ne.symm hne, and_true, and_self, false_and, if_true, if_false]
      omega
    · have a1 := a1 hip
      by_cases e1 : j = q
      · subst e1
        simp only [hq, hp, hne, Ne.symm hne, Ne.symm hip, Ne.symm hi2, and_true, false_and, and_false, if_true, if_false] at a1 ⊢
        omega
      · by_cases e2 : j = p
        · subst e2
          have a2 := a2 rfl
          simp only [hq, hp, hne, Ne.symm hne, Ne.symm hip, Ne.symm hi2, and_true, false_and, and_false, if_true, if_false] at a2 ⊢
          exact a2
        · simp only [hq, hp, hne, Ne.symm hne, Ne.symm hip, Ne.symm hi2, Ne.symm e1, Ne.symm e2, and_true, false_and, and_false, if_true, if_false] at a1 ⊢
          exact a1
  · simp only [List.length_set, getD_set] at hl ⊢
    have k1 := h1 q hp1 hq (Ne.symm hne)
    have a1 := h1 c hc hl
    rw [hcp] at a1
    generalize hr : (q - 1) / 2 = r at *
    have n1 : q ≠ r := by omega
    have n2 : p ≠ r := by omega
    have n3 : q ≠ c := by omega
    simp only [hq, hp, hne, n1, n2, n3, Ne.symm hne, and_true, false_and, and_false, if_true, if_false] at k1 a1 ⊢
    by_cases hcp' : p = c
    · subst hcp'
      simp only [and_true, if_true]
      exact k1
    · have a1 := a1 (Ne.symm hcp')
      simp only [hcp', false_and, if_false] at a1 ⊢
      omega
theorem hang_done {xs : List Int} {p : Nat} {x : Int} (hp : p < xs.length) (hB : HeapBut (xs.set p x) p) (hx : p = 0 ∨ ¬ x < xs.getD ((p - 1) / 2) 0) : IsHeap (xs.set p x) := by
  intro i hi hl
  by_cases hip : i = p
  · subst hip
    rcases hx with hx | hx
    · omega
    · rw [getD_set_ne (by omega), getD_set_eq hp]
      omega
  · exact hB.1 i hi hl hip

/-! the words of siftdown's loop -/
def SdInv (x : Int) (h0 h : List Int) (p : Int) : Prop :=
  h.length = h0.length ∧ 0 ≤ p ∧ p < h.length ∧ (h.set p.toNat x).Perm h0 ∧ HeapBut (h.set p.toNat x) p.toNat
theorem sd_start {h0 : List Int} {p : Int} (h1 : 0 ≤ p) (h2 : p < h0.length) (hB : HeapBut h0 p.toNat) : SdInv (h0.getD p.toNat 0) h0 h0 p :=
  ⟨rfl, h1, h2, by rw [set_getD_self], by rw [set_getD_self]; exact hB⟩
theorem sd_turn {x : Int} {h0 h : List Int} {p : Int} (I : SdInv x h0 h p) (h1 : 0 < p) (hx : x < h.getD ((p - 1) / 2).toNat 0) : SdInv x h0 (h.set p.toNat (h.getD ((p - 1) / 2).toNat 0)) ((p - 1) / 2) := by
  obtain ⟨a, b, c, d, e⟩ := I
  have en : ((p - 1) / 2).toNat = (p.toNat - 1) / 2 := by omega
  rw [en] at hx ⊢
  refine ⟨by simpa using a, by omega, by simp only [List.length_set]; omega, ?_, ?_⟩
  · rw [en]
    exact (hang_perm (by omega) (by omega) (by omega)).trans d
  · rw [en]
    exact hangBut_up (by omega) (by omega) e hx
theorem sd_end {x : Int} {h0 h : List Int} {p : Int} (I : SdInv x h0 h p) (hx : ¬ 0 < p ∨ ¬ x < h.getD ((p - 1) / 2).toNat 0) : (h.set p.toNat x).Perm h0 ∧ IsHeap (h.set p.toNat x) := by
  obtain ⟨a, b, c, d, e⟩ := I
  refine ⟨d, hang_done (by omega) e ?_⟩
  rcases hx with hx | hx
  · left; omega
  · right
    have en : ((p - 1) / 2).toNat = (p.toNat - 1) / 2 := by omega
    by_cases hp : p = 0
    · subst hp; rw [en] at hx; exact hx
    · rw [en] at hx; exact hx

/-! siftup's loop: the hole goes down by the lesser child -/
theorem hole_down {xs : List Int} {p c : Nat} (hp : p < xs.length) (hc : c < xs.length) (hpc : (c - 1) / 2 = p) (h0 : 1 ≤ c) (hH : HeapHole xs p) (hmin : ∀ d, 1 ≤ d → d < xs.length → (d - 1) / 2 = p → xs.getD c 0 ≤ xs.getD d 0) :
    HeapHole (xs.set p (xs.getD c 0)) c := by
  obtain ⟨h1, h2⟩ := hH
  have hne : p ≠ c := by omega
  refine ⟨fun i hi hl hi2 hi3 => ?_, fun d hd hl hc1 hdc => ?_⟩
  · simp only [List.length_set] at hl
    simp only [getD_set]
    by_cases e1 : i = p
    · subst e1
      have n1 : ¬ (i = (i - 1) / 2) := by omega
      simp only [n1, hp, and_true, and_self, false_and, if_true, if_false]
      exact h2 c h0 hc hi hpc
    · by_cases e2 : (i - 1) / 2 = p
      · have n1 : ¬ (p = i) := fun q => e1 q.symm
        simp only [e2, n1, hp, and_true, and_self, false_and, if_true, if_false]
        exact hmin i hi hl e2
      · have n1 : ¬ (p = i) := fun q => e1 q.symm
        have n2 : ¬ (p = (i - 1) / 2) := fun q => e2 q.symm
        simp only [n1, n2, false_and, if_false]
        exact h1 i hi hl e1 e2
  · simp only [List.length_set] at hl
    simp only [getD_set]
    have n1 : ¬ (p = d) := by omega
    simp only [hpc, n1, hp, and_true, and_self, false_and, if_true, if_false]
    have := h1 d hd hl (fun q => n1 q.symm) (by omega)
    rw [hdc] at this
    exact this
theorem hole_leaf {xs : List Int} {p : Nat} {x : Int} (hp : p < xs.length) (hleaf : xs.length ≤ 2 * p + 1) (hH : HeapHole xs p) : HeapBut (xs.set p x) p := by
  obtain ⟨h1, h2⟩ := hH
  refine ⟨fun i hi hl hi2 => ?_, fun c hc hl hp1 hcp => ?_⟩
  · simp only [List.length_set] at hl
    rw [getD_set_ne (by omega), getD_set_ne (fun q => hi2 q.symm)]
    exact h1 i hi hl hi2 (by omega)
  · simp only [List.length_set] at hl
    omega
def SuInv (x : Int) (h0 h : List Int) (p : Int) : Prop :=
  h.length = h0.length ∧ 0 ≤ p ∧ p < h.length ∧ (h.set p.toNat x).Perm h0 ∧ HeapHole h p.toNat
theorem su_start {h0 : List Int} (h2 : 0 < h0.length) (hB : HeapHole h0 0) : SuInv (h0.getD (0 : Int).toNat 0) h0 h0 0 :=
  ⟨rfl, by omega, by omega, by rw [set_getD_self], hB⟩
theorem su_step {x : Int} {h0 h : List Int} {p c : Int} (I : SuInv x h0 h p) (h1 : c = 2 * p + 1 ∨ c = 2 * p + 1 + 1) (h2 : c < h.length)
    (hmin : ∀ d : Int, d = 2 * p + 1 ∨ d = 2 * p + 1 + 1 → d < h.length → h.getD c.toNat 0 ≤ h.getD d.toNat 0) : SuInv x h0 (h.set p.toNat (h.getD c.toNat 0)) c := by
  obtain ⟨a, b, c', d, e⟩ := I
  refine ⟨by simpa using a, by omega, by simpa using h2, (hang_perm (by omega) (by omega) (by omega)).trans d, hole_down (by omega) (by omega) (by omega) (by omega) e fun j hj hl hp => ?_⟩
  have := hmin (j : Int) (by omega) (by omega)
  simpa using this
theorem su_turn1 {x : Int} {h0 h : List Int} {p c : Int} (I : SuInv x h0 h p) (hc : c = 2 * p + 1) (h1 : c < h.length) (h2 : ¬ c + 1 < h.length) : SuInv x h0 (h.set p.toNat (h.getD c.toNat 0)) c := by
  subst hc
  refine su_step I (.inl rfl) h1 fun d hd hl => ?_
  rcases hd with rfl | rfl
  · exact Int.le_refl _
  · omega
theorem su_turn2 {x : Int} {h0 h : List Int} {p c : Int} (I : SuInv x h0 h p) (hc : c = 2 * p + 1) (h1 : c < h.length) (h3 : h.getD c.toNat 0 < h.getD (c + 1).toNat 0) : SuInv x h0 (h.set p.toNat (h.getD c.toNat 0)) c := by
  subst hc
  refine su_step I (.inl rfl) h1 fun d hd hl => ?_
  rcases hd with rfl | rfl
  · exact Int.le_refl _
  · omega
theorem su_turn3 {x : Int} {h0 h : List Int} {p c : Int} (I : SuInv x h0 h p) (hc : c = 2 * p + 1) (h1 : c + 1 < h.length) (h3 : ¬ h.getD c.toNat 0 < h.getD (c + 1).toNat 0) : SuInv x h0 (h.set p.toNat (h.getD (c + 1).toNat 0)) (c + 1) := by
  subst hc
  refine su_step I (.inr rfl) h1 fun d hd hl => ?_
  rcases hd with rfl | rfl
  · omega
  · exact Int.le_refl _
theorem su_end {x : Int} {h0 h : List Int} {p : Int} (I : SuInv x h0 h p) (h1 : ¬ 2 * p + 1 < h.length) : (h.set p.toNat x).Perm h0 ∧ HeapBut (h.set p.toNat x) p.toNat := by
  obtain ⟨a, b, c, d, e⟩ := I
  exact ⟨d, hole_leaf (by omega) (by omega) e⟩

theorem getD_append_left {xs ys : List Int} {i : Nat} (h : i < xs.length) : (xs ++ ys).getD i 0 = xs.getD i 0 := by
  simp only [List.getD_eq_getElem?_getD]
  rw [List.getElem?_append_left h]
theorem push_but {ns : List Int} {x : Int} (h : IsHeap ns) : HeapBut (ns ++ [x]) ns.length := by
  refine ⟨fun i hi hl hi2 => ?_, fun c hc hl hp1 hcp => ?_⟩
  · simp only [List.length_append, List.length_cons, List.length_nil] at hl
    rw [getD_append_left (by omega), getD_append_left (by omega)]
    exact h i hi (by omega)
  · simp only [List.length_append, List.length_cons, List.length_nil] at hl
    omega
theorem getD_dropLast {xs : List Int} {i : Nat} (h : i < xs.length - 1) : xs.dropLast.getD i 0 = xs.getD i 0 := by
  simp only [List.getD_eq_getElem?_getD, List.getElem?_dropLast, h, if_true]
theorem hole_of_heap {ns : List Int} (h : IsHeap ns) (x : Int) : HeapHole (ns.set 0 x) 0 := by
  refine ⟨fun i hi hl hi2 hi3 => ?_, fun c hc hl hp1 hcp => by omega⟩
  simp only [List.length_set] at hl
  rw [getD_set_ne (fun q => hi3 q.symm), getD_set_ne (by omega)]
  exact h i hi hl
theorem heap_dropLast {ns : List Int} (h : IsHeap ns) : IsHeap ns.dropLast := by
  intro i hi hl
  simp only [List.length_dropLast] at hl
  rw [getD_dropLast (by omega), getD_dropLast (by omega)]
  exact h i hi (by omega)
theorem dropLast_last : ∀ {ns : List Int}, 0 < ns.length → ns.dropLast ++ [ns.getLastD 0] = ns
  | [], h => by simp at h
  | [a], _ => rfl
  | a :: b :: r, _ => by
    have ih := dropLast_last (ns := b :: r) (by simp)
    show a :: ((b :: r).dropLast ++ [(b :: r).getLastD 0]) = a :: b :: r
    rw [ih]
theorem set0_perm {ns : List Int} {x : Int} (h : 0 < ns.length) : (ns.getD 0 0 :: ns.set 0 x).Perm (x :: ns) := by
  cases ns with
  | nil => simp at h
  | cons a r =>
    show (a :: x :: r).Perm (x :: a :: r)
    exact List.Perm.swap x a r
theorem heap_min {ns : List Int} (h : IsHeap ns) : ∀ i : Nat, i < ns.length → ns.getD 0 0 ≤ ns.getD i 0 := by
  intro i
  induction i using Nat.strongRecOn with
  | ind i ih =>
    intro hl
    by_cases h0 : i = 0
    · subst h0; exact Int.le_refl _
    · have a := ih ((i - 1) / 2) (by omega) (by omega)
      have b := h i (by omega) hl
      omega
theorem heap_min_mem {ns : List Int} (h : IsHeap ns) {v : Int} (hv : v ∈ ns) : ns.getD 0 0 ≤ v := by
  obtain ⟨i, hi, rfl⟩ := List.mem_iff_getElem.mp hv
  have := heap_min h i hi
  have e : ns.getD i 0 = ns[i] := by simp [hi]
  rw [e] at this
  exact this
end Mine
end
section
namespace Mine
/-- the number of bits -/
def bl (n : Nat) : Nat := if n = 0 then 0 else n.log2 + 1
theorem bl_le {n m : Nat} : bl n ≤ m ↔ n < 2 ^ m := by
  unfold bl
  by_cases h : n = 0
  · subst h; simp [Nat.two_pow_pos]
  · rw [if_neg h, Nat.succ_le_iff, Nat.log2_lt h]
theorem bl_zero : bl 0 = 0 := rfl
theorem bl_pos {n : Nat} (h : n ≠ 0) : 0 < bl n := by unfold bl; rw [if_neg h]; omega
theorem bl_eq_zero {n : Nat} : bl n = 0 ↔ n = 0 := by
  constructor
  · intro h
    by_cases h0 : n = 0
    · exact h0
    · have := bl_pos h0; omega
  · intro h; subst h; rfl
theorem bl_mono {a b : Nat} (h : a ≤ b) : bl a ≤ bl b := bl_le.mpr (Nat.lt_of_le_of_lt h (bl_le.mp (Nat.le_refl _)))
theorem bl_bit {n : Nat} (h : n ≠ 0) : n / 2 ^ (bl n - 1) = 1 := by
  have h1 : n < 2 ^ bl n := bl_le.mp (Nat.le_refl _)
  have h2 : ¬ n < 2 ^ (bl n - 1) := fun q => by
    have := bl_le.mpr q
    have := bl_pos h
    omega
  have h3 := bl_pos h
  have e : 2 ^ bl n = 2 ^ (bl n - 1) * 2 := by rw [← Nat.pow_succ]; congr 1; omega
  rw [e] at h1
  have hp : 0 < 2 ^ (bl n - 1) := Nat.two_pow_pos _
  apply Nat.div_eq_of_lt_le <;> omega
theorem div_one_bl {n k : Nat} : n / 2 ^ k = 1 ↔ n ≠ 0 ∧ bl n = k + 1 := by
  constructor
  · intro h
    have hn : n ≠ 0 := by intro q; subst q; simp at h
    refine ⟨hn, ?_⟩
    have hp : 0 < 2 ^ k := Nat.two_pow_pos _
    have h1 : n < 2 ^ (k + 1) := by
      rw [Nat.pow_succ]
      have := Nat.div_add_mod n (2 ^ k)
      have := Nat.mod_lt n hp
      rw [h] at *
      omega
    have h2 : 2 ^ k ≤ n := by
      have := Nat.div_add_mod n (2 ^ k)
      rw [h] at this
      omega
    have a := bl_le.mpr h1
    have b : ¬ bl n ≤ k := fun q => by have := bl_le.mp q; omega
    omega
  · rintro ⟨hn, he⟩
    have := bl_bit hn
    rw [he] at this
    exact this
theorem xor_div (a b k : Nat) : (a ^^^ b) / 2 ^ k = (a / 2 ^ k) ^^^ (b / 2 ^ k) := by
  rw [← Nat.shiftRight_eq_div_pow, ← Nat.shiftRight_eq_div_pow, ← Nat.shiftRight_eq_div_pow, Nat.shiftRight_xor_distrib]
theorem bl_xor_same {a b : Nat} (h : bl a = bl b) (ha : a ≠ 0) : bl (a ^^^ b) < bl a := by
  have hb : b ≠ 0 := fun q => by subst q; rw [bl_zero] at h; exact ha (bl_eq_zero.mp h)
  have h1 := bl_bit ha
  have h2 := bl_bit hb
  rw [← h] at h2
  have h3 : (a ^^^ b) / 2 ^ (bl a - 1) = 0 := by rw [xor_div, h1, h2]; rfl
  have hp := bl_pos ha
  have h4 : a ^^^ b < 2 ^ (bl a - 1) := by
    rcases Nat.div_eq_zero_iff.mp h3 with q | q
    · have := Nat.two_pow_pos (bl a - 1); omega
    · exact q
  have := bl_le.mpr h4
  omega
theorem bl_xor_lt {a b : Nat} (h : bl a < bl b) : bl (a ^^^ b) = bl b := by
  have hb : b ≠ 0 := fun q => by subst q; rw [bl_zero] at h; omega
  have hp := bl_pos hb
  have h1 := bl_bit hb
  have h2 : a < 2 ^ (bl b - 1) := bl_le.mp (by omega)
  have h3 : a / 2 ^ (bl b - 1) = 0 := Nat.div_eq_of_lt h2
  have h4 : (a ^^^ b) / 2 ^ (bl b - 1) = 1 := by rw [xor_div, h1, h3]; rfl
  have := (div_one_bl.mp h4).2
  omega
theorem bl_xor_le {a b m : Nat} (h1 : bl a ≤ m) (h2 : bl b ≤ m) : bl (a ^^^ b) ≤ m := bl_le.mpr (Nat.xor_lt_two_pow (bl_le.mp h1) (bl_le.mp h2))

/-- the exclusive ors of some of the numbers -/
def Span : List Nat → Nat → Prop
  | [], v => v = 0
  | x :: xs, v => Span xs v ∨ Span xs (v ^^^ x)
theorem span_zero : ∀ xs, Span xs 0
  | [] => rfl
  | _ :: xs => .inl (span_zero xs)
theorem span_xor : ∀ {xs : List Nat} {u v : Nat}, Span xs u → Span xs v → Span xs (u ^^^ v)
  | [], u, v, hu, hv => by
    have hu : u = 0 := hu
    have hv : v = 0 := hv
    subst hu; subst hv; rfl
  | x :: xs, u, v, hu, hv => by
    rcases hu with hu | hu <;> rcases hv with hv | hv
    · exact .inl (span_xor hu hv)
    · refine .inr ?_
      rw [Nat.xor_assoc]
      exact span_xor hu hv
    · refine .inr ?_
      have e : u ^^^ v ^^^ x = (u ^^^ x) ^^^ v := by rw [Nat.xor_assoc, Nat.xor_assoc, Nat.xor_comm v x]
      rw [e]
      exact span_xor hu hv
    · refine .inl ?_
      have e : u ^^^ v = (u ^^^ x) ^^^ (v ^^^ x) := by
        rw [Nat.xor_assoc, Nat.xor_comm v x, ← Nat.xor_assoc x x v, Nat.xor_self, Nat.zero_xor]
      rw [e]
      exact span_xor hu hv
theorem span_mem : ∀ {xs : List Nat} {v : Nat}, v ∈ xs → Span xs v
  | x :: xs, v, h => by
    rcases List.mem_cons.mp h with h | h
    · subst h
      exact .inr (by rw [Nat.xor_self]; exact span_zero xs)
    · exact .inl (span_mem h)
/-- one list's span lies in another's where its numbers do -/
theorem span_le {xs ys : List Nat} (h : ∀ x ∈ xs, Span ys x) : ∀ {v : Nat}, Span xs v → Span ys v := by
  induction xs with
  | nil => intro v hv; have hv : v = 0 := hv; subst hv; exact span_zero _
  | cons x xs ih =>
    intro v hv
    have ih := @ih (fun y hy => h y (.tail _ hy))
    rcases hv with hv | hv
    · exact ih hv
    · have := span_xor (ih hv) (h x (.head _))
      rw [Nat.xor_assoc, Nat.xor_self, Nat.xor_zero] at this
      exact this
theorem span_eq {xs ys : List Nat} (h1 : ∀ x ∈ xs, Span ys x) (h2 : ∀ y ∈ ys, Span xs y) (v : Nat) : Span xs v ↔ Span ys v := ⟨span_le h1, span_le h2⟩
theorem span_same {xs ys : List Nat} (h : ∀ v, v ∈ xs ↔ v ∈ ys) (v : Nat) : Span xs v ↔ Span ys v :=
  span_eq (fun x hx => span_mem ((h x).mp hx)) (fun y hy => span_mem ((h y).mpr hy)) v
theorem span_bound {xs : List Nat} {m : Nat} (h : ∀ x ∈ xs, bl x ≤ m) : ∀ {v : Nat}, Span xs v → bl v ≤ m := by
  induction xs with
  | nil => intro v hv; have hv : v = 0 := hv; subst hv; rw [bl_zero]; omega
  | cons x xs ih =>
    intro v hv
    have ih := @ih (fun y hy => h y (.tail _ hy))
    rcases hv with hv | hv
    · exact ih hv
    · have := bl_xor_le (ih hv) (h x (.head _))
      rw [Nat.xor_assoc, Nat.xor_self, Nat.xor_zero] at this
      exact this
/-- of numbers with different highest bits every exclusive or has the highest bit of one of them -/
theorem span_top {xs : List Nat} (h0 : ∀ x ∈ xs, x ≠ 0) (hd : xs.Pairwise fun a b => bl a ≠ bl b) : ∀ {v : Nat}, Span xs v → v ≠ 0 → ∃ x ∈ xs, bl x = bl v := by
  induction xs with
  | nil => intro v hv hne; exact absurd hv hne
  | cons x xs ih =>
    intro v hv hne
    obtain ⟨hd1, hd2⟩ := List.pairwise_cons.mp hd
    have ih := @ih (fun y hy => h0 y (.tail _ hy)) hd2
    rcases hv with hv | hv
    · obtain ⟨y, hy, e⟩ := ih hv hne
      exact ⟨y, .tail _ hy, e⟩
    · by_cases h : v ^^^ x = 0
      · have : v = x := by
          have e := congrArg (· ^^^ x) h
          simp only [Nat.xor_assoc, Nat.xor_self, Nat.xor_zero, Nat.zero_xor] at e
          exact e
        subst this
        exact ⟨v, .head _, rfl⟩
      · obtain ⟨y, hy, e⟩ := ih hv h
        have hne' := hd1 y hy
        have ev : v = (v ^^^ x) ^^^ x := by rw [Nat.xor_assoc, Nat.xor_self, Nat.xor_zero]
        by_cases hlt : bl (v ^^^ x) < bl x
        · refine ⟨x, .head _, ?_⟩
          have := bl_xor_lt hlt
          rw [← ev] at this
          exact this.symm
        · refine ⟨y, .tail _ hy, ?_⟩
          have hlt : bl x < bl (v ^^^ x) := by omega
          have := bl_xor_lt hlt
          rw [Nat.xor_comm x, ← ev] at this
          omega
end Mine
end
section
open PySem
namespace Mine
theorem intBits_bl (x : Int) : Builtin.Int.intBits x = bl x.natAbs := by
  unfold Builtin.Int.intBits bl
  by_cases h : x = 0
  · subst h; rfl
  · have h2 : x.natAbs ≠ 0 := by omega
    simp [h, h2]
theorem and_xor (a : Nat) : ∀ b : Nat, (a ^^^ b) + 2 * (a &&& b) = a + b := by
  induction a using Nat.strongRecOn with
  | ind a ih =>
    intro b
    by_cases ha : a = 0
    · subst ha; simp
    · have h1 := ih (a / 2) (by omega) (b / 2)
      have h2 := Nat.xor_div_two (a := a) (b := b)
      have h3 := Nat.and_div_two (a := a) (b := b)
      rw [← h2, ← h3] at h1
      have h4 := Nat.xor_mod_two_eq_one (a := a) (b := b)
      have h5 : (a &&& b) % 2 = if a % 2 = 1 ∧ b % 2 = 1 then 1 else 0 := by
        have := Nat.and_mod_two_eq_one (a := a) (b := b)
        by_cases q : a % 2 = 1 ∧ b % 2 = 1
        · rw [if_pos q, this.mpr q]
        · rw [if_neg q]
          have : ¬ (a &&& b) % 2 = 1 := fun z => q (this.mp z)
          omega
      by_cases q : a % 2 = 1 ∧ b % 2 = 1
      · rw [if_pos q] at h5; omega
      · rw [if_neg q] at h5; omega
theorem bitXor_nat {x y : Int} (hx : 0 ≤ x) (hy : 0 ≤ y) : Builtin.bitXor x y = ((x.natAbs ^^^ y.natAbs : Nat) : Int) := by
  rw [PyProof.Rows.bitXor_and, PyProof.Rows.bitAnd_pp hx hy]
  have e1 : x.toNat = x.natAbs := by omega
  have e2 : y.toNat = y.natAbs := by omega
  rw [e1, e2]
  have := and_xor x.natAbs y.natAbs
  omega
end Mine
end
section
open PySem
namespace Mine
def SameSpan (xs ys : List Int) : Prop := ∀ v, Span (xs.map Int.natAbs) v ↔ Span (ys.map Int.natAbs) v
theorem SameSpan.trans {a b c : List Int} (h1 : SameSpan a b) (h2 : SameSpan b c) : SameSpan a c := fun v => (h1 v).trans (h2 v)
theorem SameSpan.of_mem {xs ys : List Int} (h1 : ∀ x ∈ xs, Span (ys.map Int.natAbs) x.natAbs) (h2 : ∀ y ∈ ys, Span (xs.map Int.natAbs) y.natAbs) : SameSpan xs ys := fun v =>
  span_eq (fun x hx => by obtain ⟨z, hz, rfl⟩ := List.mem_map.mp hx; exact h1 z hz) (fun x hx => by obtain ⟨z, hz, rfl⟩ := List.mem_map.mp hx; exact h2 z hz) v
theorem SameSpan.of_same {xs ys : List Int} (h : ∀ v, v ∈ xs ↔ v ∈ ys) : SameSpan xs ys :=
  .of_mem (fun x hx => span_mem (List.mem_map_of_mem ((h x).mp hx))) (fun x hx => span_mem (List.mem_map_of_mem ((h x).mpr hx)))
theorem span_in {xs : List Int} {x : Int} (h : x ∈ xs) : Span (xs.map Int.natAbs) x.natAbs := span_mem (List.mem_map_of_mem h)
/-- one number's place taken by its exclusive or with another -/
theorem SameSpan.swap {xs ys : List Int} {x y z : Int} (hx : x ∈ xs) (hy : y ∈ ys) (h1 : ∀ v ∈ xs, v = x ∨ v ∈ ys) (h2 : ∀ v ∈ ys, v = y ∨ v ∈ xs) (hzx : z ∈ xs) (hzy : z ∈ ys) (hne : y.natAbs = x.natAbs ^^^ z.natAbs) : SameSpan xs ys := by
  have e : x.natAbs = y.natAbs ^^^ z.natAbs := by rw [hne, Nat.xor_assoc, Nat.xor_self, Nat.xor_zero]
  refine .of_mem (fun v hv => ?_) (fun v hv => ?_)
  · rcases h1 v hv with rfl | h
    · rw [e]; exact span_xor (span_in hy) (span_in hzy)
    · exact span_in h
  · rcases h2 v hv with rfl | h
    · rw [hne]; exact span_xor (span_in hx) (span_in hzx)
    · exact span_in h

def ToldB (nums heap told : List Int) : Prop :=
  IsHeap heap ∧ (∀ h ∈ heap, -256 < h ∧ h ≤ 0) ∧ (∀ t ∈ told, 0 < t ∧ t < 256) ∧ heap.length + told.length ≤ nums.length ∧ nums.length ≤ 7 ∧ SameSpan (heap ++ told) nums ∧ told.Pairwise (fun a b => bl b.natAbs < bl a.natAbs)
def ToldInv (nums heap told : List Int) : Prop := ToldB nums heap told ∧ ∀ h ∈ heap, ∀ t ∈ told, bl h.natAbs < bl t.natAbs
def ToldIn (nums : List Int) (number : Int) (heap told : List Int) : Prop :=
  ToldB nums heap told ∧ number ∈ told ∧ (∀ t ∈ told, bl number.natAbs ≤ bl t.natAbs) ∧ (∀ h ∈ heap, bl h.natAbs ≤ bl number.natAbs)

theorem told_start {nums heap : List Int} (hp : heap.Perm (nums.map fun x => -x)) (hh : IsHeap heap) (hb : ∀ x ∈ nums, 0 ≤ x ∧ x < 256) (hl : nums.length ≤ 7) : ToldInv nums heap [] := by
  refine ⟨⟨hh, fun h hm => ?_, fun t ht => (nomatch ht), ?_, hl, ?_, List.Pairwise.nil⟩, fun h _ t ht => (nomatch ht)⟩
  · obtain ⟨x, hx, rfl⟩ := List.mem_map.mp (hp.mem_iff.mp hm)
    have := hb x hx
    omega
  · have := hp.length_eq
    simp only [List.length_map] at this
    simp only [List.length_nil]
    omega
  · rw [List.append_nil]
    refine .of_mem (fun x hx => ?_) (fun y hy => ?_)
    · obtain ⟨z, hz, rfl⟩ := List.mem_map.mp (hp.mem_iff.mp hx)
      rw [Int.natAbs_neg]
      exact span_in hz
    · have : -y ∈ heap := hp.mem_iff.mpr (List.mem_map_of_mem hy)
      rw [← Int.natAbs_neg]
      exact span_in this
section
variable {nums heap heap' told : List Int} {x number : Int}
theorem told_zero (I : ToldInv nums heap told) (hp : (x :: heap').Perm heap) (hh : IsHeap heap') (h0 : ¬ -x ≠ 0) : ToldInv nums heap' told := by
  obtain ⟨⟨a, b, c, d, e, f, g⟩, k⟩ := I
  have hx : x = 0 := by omega
  subst hx
  have hm : ∀ h ∈ heap', h ∈ heap := fun h q => hp.mem_iff.mp (.tail _ q)
  have hl := hp.length_eq
  simp only [List.length_cons] at hl
  refine ⟨⟨hh, fun h q => b h (hm h q), c, by omega, e, SameSpan.trans (.of_mem (fun v hv => ?_) (fun v hv => ?_)) f, g⟩, fun h q => k h (hm h q)⟩
  · rcases List.mem_append.mp hv with q | q
    · exact span_in (List.mem_append.mpr (.inl (hm v q)))
    · exact span_in (List.mem_append.mpr (.inr q))
  · rcases List.mem_append.mp hv with q | q
    · rcases List.mem_cons.mp (hp.mem_iff.mpr q) with rfl | q
      · exact span_zero _
      · exact span_in (List.mem_append.mpr (.inl q))
    · exact span_in (List.mem_append.mpr (.inr q))
theorem told_in (I : ToldInv nums heap told) (hh0 : ∀ h ∈ heap, x ≤ h) (hp : (x :: heap').Perm heap) (hh : IsHeap heap') (h0 : -x ≠ 0) : ToldIn nums (-x) heap' (told ++ [-x]) := by
  obtain ⟨⟨a, b, c, d, e, f, g⟩, k⟩ := I
  have hx : x ∈ heap := hp.mem_iff.mp (.head _)
  have hm : ∀ h ∈ heap', h ∈ heap := fun h q => hp.mem_iff.mp (.tail _ q)
  have hl := hp.length_eq
  simp only [List.length_cons] at hl
  have bx := b x hx
  refine ⟨⟨hh, fun h q => b h (hm h q), fun t ht => ?_, ?_, e, SameSpan.trans (.of_mem (fun v hv => ?_) (fun v hv => ?_)) f, ?_⟩, ?_, fun t ht => ?_, fun h q => ?_⟩
  · rcases List.mem_append.mp ht with q | q
    · exact c t q
    · rw [List.mem_singleton.mp q]; omega
  · simp only [List.length_append, List.length_cons, List.length_nil]; omega
  · rcases List.mem_append.mp hv with q | q
    · exact span_in (List.mem_append.mpr (.inl (hm v q)))
    · rcases List.mem_append.mp q with q | q
      · exact span_in (List.mem_append.mpr (.inr q))
      · rw [List.mem_singleton.mp q, Int.natAbs_neg]
        exact span_in (List.mem_append.mpr (.inl hx))
  · rcases List.mem_append.mp hv with q | q
    · rcases List.mem_cons.mp (hp.mem_iff.mpr q) with rfl | q
      · rw [← Int.natAbs_neg]
        exact span_in (List.mem_append.mpr (.inr (List.mem_append.mpr (.inr (.head _)))))
      · exact span_in (List.mem_append.mpr (.inl q))
    · exact span_in (List.mem_append.mpr (.inr (List.mem_append.mpr (.inl q))))
  · rw [List.pairwise_append]
    refine ⟨g, List.pairwise_singleton _ _, fun t ht y hy => ?_⟩
    rw [List.mem_singleton.mp hy, Int.natAbs_neg]
    exact k x hx t ht
  · exact List.mem_append.mpr (.inr (.head _))
  · rw [Int.natAbs_neg]
    rcases List.mem_append.mp ht with q | q
    · exact Nat.le_of_lt (k x hx t q)
    · rw [List.mem_singleton.mp q, Int.natAbs_neg]; exact Nat.le_refl _
  · have := hh0 h (hm h q)
    have := b h (hm h q)
    exact bl_mono (by omega)
theorem told_out (I : ToldIn nums number heap told) (h : heap = [] ∨ ¬ ((Builtin.Int.intBits (-heap.getD (Int.toNat 0) 0) : Int) - 1 = (Builtin.Int.intBits number : Int) - 1)) : ToldInv nums heap told := by
  obtain ⟨I, hn, h1, h2⟩ := I
  refine ⟨I, fun y hy t ht => ?_⟩
  rcases h with rfl | h
  · nomatch hy
  · rw [intBits_bl, intBits_bl, Int.natAbs_neg] at h
    have hpos : 0 < heap.length := List.length_pos_of_mem hy
    have e : heap.getD (Int.toNat 0) 0 = heap.getD 0 0 := rfl
    have hm : heap.getD 0 0 ∈ heap := by
      cases heap with
      | nil => nomatch hy
      | cons a r => exact .head _
    have a1 := h2 _ hm
    have a2 := heap_min_mem I.1 hy
    have a3 := I.2.1 y hy
    have a4 := h1 t ht
    have a5 : bl y.natAbs ≤ bl (heap.getD 0 0).natAbs := bl_mono (by omega)
    rw [e] at h
    omega
theorem told_turn (I : ToldIn nums number heap told) (h0 : heap ≠ []) (hb : (Builtin.Int.intBits (-heap.getD (Int.toNat 0) 0) : Int) - 1 = (Builtin.Int.intBits number : Int) - 1)
    (hp : heap'.Perm (heap.set 0 (-(Builtin.bitXor (-heap.getD (Int.toNat 0) 0) number)))) (hh : IsHeap heap') : ToldIn nums number heap' told ∧ heap'.length = heap.length ∧ (heap'.map Int.natAbs).sum < (heap.map Int.natAbs).sum := by
  obtain ⟨⟨a, b, c, d, e, f, g⟩, hn, h1, h2⟩ := I
  cases heap with
  | nil => exact absurd rfl h0
  | cons x r =>
    have ex : (x :: r).getD (Int.toNat 0) 0 = x := rfl
    rw [ex] at hb hp
    have bx := b x (.head _)
    have bn := c number hn
    rw [bitXor_nat (by omega) (by omega), Int.natAbs_neg] at hp
    rw [intBits_bl, intBits_bl, Int.natAbs_neg] at hb
    have hbe : bl x.natAbs = bl number.natAbs := by omega
    have hx0 : x.natAbs ≠ 0 := fun q => by
      rw [q, bl_zero] at hbe
      have := bl_eq_zero.mp hbe.symm
      omega
    have hlt := bl_xor_same hbe hx0
    generalize hy : (x.natAbs ^^^ number.natAbs) = y at *
    have hyx : y < x.natAbs := by
      have hq : y < 2 ^ (bl x.natAbs - 1) := bl_le.mp (by omega)
      have hq2 : ¬ x.natAbs < 2 ^ (bl x.natAbs - 1) := fun q => by
        have := bl_le.mpr q
        have := bl_pos hx0
        omega
      omega
    rw [List.set_cons_zero] at hp
    have hm : ∀ v ∈ heap', v = -(y : Int) ∨ v ∈ r := fun v hv => List.mem_cons.mp (hp.mem_iff.mp hv)
    have hl := hp.length_eq
    refine ⟨⟨⟨hh, fun h q => ?_, c, ?_, e, SameSpan.trans ?_ f, g⟩, hn, h1, fun h q => ?_⟩, ?_, ?_⟩
    · rcases hm h q with rfl | q
      · omega
      · exact b h (.tail _ q)
    · simp only [List.length_cons] at d hl; omega
    · refine SameSpan.swap (x := -(y : Int)) (y := x) (z := number) ?_ (List.mem_append.mpr (.inl (.head _))) (fun v hv => ?_) (fun v hv => ?_) (List.mem_append.mpr (.inr hn)) (List.mem_append.mpr (.inr hn)) ?_
      · exact List.mem_append.mpr (.inl (hp.mem_iff.mpr (.head _)))
      · rcases List.mem_append.mp hv with q | q
        · rcases hm v q with q | q
          · exact .inl q
          · exact .inr (List.mem_append.mpr (.inl (.tail _ q)))
        · exact .inr (List.mem_append.mpr (.inr q))
      · rcases List.mem_append.mp hv with q | q
        · rcases List.mem_cons.mp q with q | q
          · exact .inl q
          · exact .inr (List.mem_append.mpr (.inl (hp.mem_iff.mpr (.tail _ q))))
        · exact .inr (List.mem_append.mpr (.inr q))
      · rw [Int.natAbs_neg, Int.natAbs_natCast, ← hy, Nat.xor_assoc, Nat.xor_self, Nat.xor_zero]
    · rcases hm h q with rfl | q
      · rw [Int.natAbs_neg, Int.natAbs_natCast]; omega
      · exact h2 h (.tail _ q)
    · simpa using hl
    · have := (hp.map Int.natAbs).sum_nat
      rw [this, List.map_cons, List.map_cons, List.sum_cons, List.sum_cons, Int.natAbs_neg, Int.natAbs_natCast]
      omega
end
/-- what is told -/
def Told3 (nums told : List Int) : Prop := (∀ t ∈ told, 0 < t ∧ t < 256) ∧ told.length ≤ 7 ∧ SameSpan told nums ∧ told.Pairwise (fun a b => bl b.natAbs < bl a.natAbs)
theorem told_done {nums heap told : List Int} (I : ToldInv nums heap told) (h : heap = []) : Told3 nums told := by
  subst h
  obtain ⟨⟨a, b, c, d, e, f, g⟩, k⟩ := I
  exact ⟨c, by simp only [List.length_nil] at d; omega, f, g⟩
end Mine
namespace Mine
section
variable {nums heap heap' told pre m0 : List Int} {x n number : Int}
theorem st_push0 : ([] : List Int).length = ([] : List Int).length ∧ ([] : List Int).Perm (List.map (fun x => -x) []) ∧ IsHeap [] :=
  ⟨rfl, .nil, fun i _ hl => by simp at hl⟩
theorem st_push1 (h1 : heap.length = pre.length) (h2 : heap.Perm (pre.map fun x => -x)) (hp : heap'.Perm (heap ++ [-n])) (hh : IsHeap heap') : heap'.length = (pre ++ [n]).length ∧ heap'.Perm ((pre ++ [n]).map fun x => -x) ∧ IsHeap heap' := by
  refine ⟨?_, ?_, hh⟩
  · have := hp.length_eq
    simp only [List.length_append, List.length_cons, List.length_nil] at this ⊢
    omega
  · rw [List.map_append]
    exact hp.trans (h2.append_right _)
theorem st_out0 (h0 : heap.length = nums.length) (hp : heap.Perm (nums.map fun x => -x)) (hh : IsHeap heap) (hb : ∀ x ∈ nums, 0 ≤ x ∧ x < 256) (hl : nums.length ≤ 7) : heap.length + ([] : List Int).length ≤ 7 ∧ ToldInv nums heap [] :=
  ⟨by simp only [List.length_nil]; omega, told_start hp hh hb hl⟩
theorem st_in0 (I : ToldInv nums heap told) (hl : heap.length + told.length ≤ 7) (hp : (heap.getD (Int.toNat 0) 0 :: heap').Perm heap) (hh : IsHeap heap') (h0 : -heap.getD (Int.toNat 0) 0 ≠ 0) :
    heap'.length = heap'.length ∧ heap'.length + (told ++ [-heap.getD (Int.toNat 0) 0]).length ≤ 7 ∧ ToldIn nums (-heap.getD (Int.toNat 0) 0) heap' (told ++ [-heap.getD (Int.toNat 0) 0]) := by
  refine ⟨rfl, ?_, told_in I (fun h q => heap_min_mem I.1.1 q) hp hh h0⟩
  have := hp.length_eq
  simp only [List.length_append, List.length_cons, List.length_nil] at this ⊢
  omega
theorem st_in1 (I : ToldIn nums number heap told) (hl0 : heap.length = m0.length) (hl : heap.length + told.length ≤ 7) (h0 : decide (heap = []) = false) (hb : (Builtin.Int.intBits (-heap.getD (Int.toNat 0) 0) : Int) - 1 = (Builtin.Int.intBits number : Int) - 1)
    (hp : heap'.Perm (heap.set 0 (-(Builtin.bitXor (-heap.getD (Int.toNat 0) 0) number)))) (hh : IsHeap heap') : heap'.length = m0.length ∧ heap'.length + told.length ≤ 7 ∧ ToldIn nums number heap' told := by
  obtain ⟨a, b, c⟩ := told_turn I (of_decide_eq_false h0) hb hp hh
  exact ⟨by omega, by omega, a⟩
theorem ms_in1 (I : ToldIn nums number heap told) (h0 : decide (heap = []) = false) (hb : (Builtin.Int.intBits (-heap.getD (Int.toNat 0) 0) : Int) - 1 = (Builtin.Int.intBits number : Int) - 1)
    (hp : heap'.Perm (heap.set 0 (-(Builtin.bitXor (-heap.getD (Int.toNat 0) 0) number)))) (hh : IsHeap heap') : (heap'.map Int.natAbs).sum < (heap.map Int.natAbs).sum :=
  (told_turn I (of_decide_eq_false h0) hb hp hh).2.2
theorem st_out1 (I : ToldIn nums number heap told) (hl : heap.length + told.length ≤ 7) (h0 : decide (heap = []) = true) : heap.length + told.length ≤ 7 ∧ ToldInv nums heap told := ⟨hl, told_out I (.inl (of_decide_eq_true h0))⟩
theorem st_out2 (I : ToldIn nums number heap told) (hl : heap.length + told.length ≤ 7) (h0 : (Builtin.Int.intBits (-heap.getD (Int.toNat 0) 0) : Int) - 1 ≠ (Builtin.Int.intBits number : Int) - 1) : heap.length + told.length ≤ 7 ∧ ToldInv nums heap told := ⟨hl, told_out I (.inr h0)⟩
theorem st_out3 (I : ToldInv nums heap told) (hl : heap.length + told.length ≤ 7) (hp : (x :: heap').Perm heap) (hh : IsHeap heap') (h0 : -x = 0) : heap'.length + told.length ≤ 7 ∧ ToldInv nums heap' told := by
  refine ⟨?_, told_zero I hp hh (by omega)⟩
  have := hp.length_eq
  simp only [List.length_cons] at this
  omega
theorem ms_out (h0 : heap.length = heap'.length) (hp : (x :: heap').Perm m0) : heap.length < m0.length := by
  have := hp.length_eq
  simp only [List.length_cons] at this
  omega
end
end Mine
end
section
open PySem PySem.W
namespace Mine
def Wt (heap : List Int) : Nat := (heap.map fun h => bl h.natAbs + 1).sum
theorem wt_perm {a b : List Int} (h : a.Perm b) : Wt a = Wt b := (h.map _).sum_nat
theorem wt_cons (x : Int) (r : List Int) : Wt (x :: r) = bl x.natAbs + 1 + Wt r := by simp [Wt]
theorem wt_le {heap : List Int} (h : ∀ x ∈ heap, bl x.natAbs ≤ 8) : Wt heap ≤ 9 * heap.length := by
  induction heap with
  | nil => simp [Wt]
  | cons x r ih =>
    rw [wt_cons, List.length_cons]
    have := ih fun y hy => h y (.tail _ hy)
    have := h x (.head _)
    omega
def KeptB (nums heap : List Int) (c : List (Int × Int)) : Prop :=
  IsHeap heap ∧ (∀ h ∈ heap, 0 ≤ h ∧ h < 256) ∧ (∀ p ∈ c, (0 < p.2 ∧ p.2 < 256) ∧ p.1 = (bl p.2.natAbs : Int) - 1) ∧ c.Pairwise (fun p q => p.1 ≠ q.1) ∧ heap.length + c.length ≤ nums.length ∧ nums.length ≤ 7 ∧ SameSpan (heap ++ c.map (·.2)) nums
def KeptInv (nums : List Int) (k : Nat) (heap : List Int) (c : List (Int × Int)) : Prop := KeptB nums heap c ∧ (heap = [] ∨ Wt heap + k ≤ 63)
theorem small_bl {x : Int} (h0 : 0 ≤ x) (h1 : x < 256) : bl x.natAbs ≤ 8 := bl_le.mpr (by omega)
section
variable {nums heap heap' : List Int} {x first : Int} {c : List (Int × Int)} {k : Nat}
theorem kept_start (hp : heap.Perm nums) (hh : IsHeap heap) (hb : ∀ x ∈ nums, 0 ≤ x ∧ x < 256) (hl : nums.length ≤ 7) : KeptInv nums 0 heap [] := by
  have hb' : ∀ x ∈ heap, 0 ≤ x ∧ x < 256 := fun x hx => hb x (hp.mem_iff.mp hx)
  have hle := hp.length_eq
  refine ⟨⟨hh, hb', fun p hp => (nomatch hp), List.Pairwise.nil, by simp only [List.length_nil]; omega, hl, ?_⟩, .inr ?_⟩
  · rw [List.map_nil, List.append_nil]
    exact .of_same fun v => hp.mem_iff
  · have := wt_le (heap := heap) fun x hx => small_bl (hb' x hx).1 (hb' x hx).2
    omega
theorem kept_skip (I : KeptInv nums k heap c) (h : heap = []) : KeptInv nums (k + 1) heap c := ⟨I.1, .inl h⟩
theorem kept_left (I : KeptInv nums k heap c) (h : heap ≠ []) : Wt heap + k ≤ 63 := by
  rcases I.2 with q | q
  · exact absurd q h
  · exact q
theorem kept_zero (I : KeptInv nums k heap c) (h : heap ≠ []) (hp : (x :: heap').Perm heap) (hh : IsHeap heap') (h0 : x = 0) : KeptInv nums (k + 1) heap' c := by
  have hw := kept_left I h
  obtain ⟨⟨a, b, cc, d, e, f, g⟩, _⟩ := I
  subst h0
  have hm : ∀ h ∈ heap', h ∈ heap := fun h q => hp.mem_iff.mp (.tail _ q)
  have hl := hp.length_eq
  simp only [List.length_cons] at hl
  refine ⟨⟨hh, fun h q => b h (hm h q), cc, d, by omega, f, SameSpan.trans (.of_mem (fun v hv => ?_) (fun v hv => ?_)) g⟩, .inr ?_⟩
  · rcases List.mem_append.mp hv with q | q
    · exact span_in (List.mem_append.mpr (.inl (hm v q)))
    · exact span_in (List.mem_append.mpr (.inr q))
  · rcases List.mem_append.mp hv with q | q
    · rcases List.mem_cons.mp (hp.mem_iff.mpr q) with rfl | q
      · exact span_zero _
      · exact span_in (List.mem_append.mpr (.inl q))
    · exact span_in (List.mem_append.mpr (.inr q))
  · rw [← wt_perm hp, wt_cons] at hw
    omega
theorem put_new {q v : Int} (h : kdfHas c q = false) : kdfPut c q v = c ++ [(q, v)] := by
  unfold kdfHas at h
  unfold kdfPut
  rw [if_neg (by rw [h]; exact Bool.false_ne_true)]
theorem kept_put (I : KeptInv nums k heap c) (h : heap ≠ []) (hp : (x :: heap').Perm heap) (hh : IsHeap heap') (h0 : x ≠ 0) (hn : kdfHas c ((Builtin.Int.intBits x : Int) - 1) = false) : KeptInv nums (k + 1) heap' (kdfPut c ((Builtin.Int.intBits x : Int) - 1) x) := by
  have hw := kept_left I h
  obtain ⟨⟨a, b, cc, d, e, f, g⟩, _⟩ := I
  rw [put_new hn]
  rw [intBits_bl] at hn ⊢
  have hx : x ∈ heap := hp.mem_iff.mp (.head _)
  have bx := b x hx
  have hm : ∀ h ∈ heap', h ∈ heap := fun h q => hp.mem_iff.mp (.tail _ q)
  have hl := hp.length_eq
  simp only [List.length_cons] at hl
  refine ⟨⟨hh, fun h q => b h (hm h q), fun p q => ?_, ?_, by simp only [List.length_append, List.length_cons, List.length_nil]; omega, f, SameSpan.trans (.of_same fun v => ?_) g⟩, .inr ?_⟩
  · rcases List.mem_append.mp q with q | q
    · exact cc p q
    · rw [List.mem_singleton.mp q]
      exact ⟨⟨by show 0 < x; omega, bx.2⟩, rfl⟩
  · rw [List.pairwise_append]
    refine ⟨d, List.pairwise_singleton _ _, fun p q y hy => ?_⟩
    rw [List.mem_singleton.mp hy]
    intro e
    unfold kdfHas at hn
    rw [List.any_eq_false] at hn
    exact hn p q (decide_eq_true e)
  · rw [List.map_append, List.mem_append, List.mem_append, List.mem_append, List.map_cons, List.map_nil, List.mem_singleton, ← hp.mem_iff, List.mem_cons]
    constructor
    · rintro (q | q | q)
      · exact .inl (.inr q)
      · exact .inr q
      · exact .inl (.inl q)
    · rintro ((q | q) | q)
      · exact .inr (.inr q)
      · exact .inl q
      · exact .inr (.inl q)
  · rw [← wt_perm hp, wt_cons] at hw
    omega
theorem look_mem {q : Int} (h : kdfHas c q = true) : (q, kdfLook c q 0) ∈ c := by
  unfold kdfHas at h
  unfold kdfLook
  obtain ⟨p, hp, hq⟩ := List.any_eq_true.mp h
  cases hf : c.find? fun p => decide (p.1 = q) with
  | none => exact absurd hq (by have := List.find?_eq_none.mp hf p hp; simpa using this)
  | some r =>
    have h1 := List.mem_of_find?_eq_some hf
    have h2 := List.find?_some hf
    have h3 : r.1 = q := of_decide_eq_true h2
    show (q, r.2) ∈ c
    rw [← h3]
    exact h1
theorem kept_rep (I : KeptInv nums k heap c) (h : heap ≠ []) (h0 : heap.getD (Int.toNat 0) 0 ≠ 0) (hn : kdfHas c ((Builtin.Int.intBits (heap.getD (Int.toNat 0) 0) : Int) - 1) = true)
    (hp : heap'.Perm (heap.set 0 (Builtin.bitXor (heap.getD (Int.toNat 0) 0) (kdfLook c ((Builtin.Int.intBits (heap.getD (Int.toNat 0) 0) : Int) - 1) 0)))) (hh : IsHeap heap') : KeptInv nums (k + 1) heap' c := by
  have hw := kept_left I h
  obtain ⟨⟨a, b, cc, d, e, f, g⟩, _⟩ := I
  cases heap with
  | nil => exact absurd rfl h
  | cons x r =>
    have ex : (x :: r).getD (Int.toNat 0) 0 = x := rfl
    rw [ex] at h0 hn hp
    have hkm := look_mem hn
    generalize hz : kdfLook c ((Builtin.Int.intBits x : Int) - 1) 0 = z at *
    have bx := b x (.head _)
    have bz := cc _ hkm
    dsimp only at bz
    rw [intBits_bl] at bz
    rw [bitXor_nat (by omega) (by omega)] at hp
    have hbe : bl x.natAbs = bl z.natAbs := by omega
    have hx0 : x.natAbs ≠ 0 := by omega
    have hlt := bl_xor_same hbe hx0
    have hzm : z ∈ c.map (·.2) := List.mem_map.mpr ⟨_, hkm, rfl⟩
    generalize hy : (x.natAbs ^^^ z.natAbs) = y at *
    have h256 : y < 256 := by
      have : bl y ≤ 8 := by have := small_bl bx.1 bx.2; omega
      have := bl_le.mp this
      omega
    rw [List.set_cons_zero] at hp
    have hm : ∀ v ∈ heap', v = (y : Int) ∨ v ∈ r := fun v hv => List.mem_cons.mp (hp.mem_iff.mp hv)
    have hl := hp.length_eq
    refine ⟨⟨hh, fun h q => ?_, cc, d, ?_, f, SameSpan.trans ?_ g⟩, .inr ?_⟩
    · rcases hm h q with rfl | q
      · omega
      · exact b h (.tail _ q)
    · simp only [List.length_cons] at e hl; omega
    · refine SameSpan.swap (x := (y : Int)) (y := x) (z := z) ?_ (List.mem_append.mpr (.inl (.head _))) (fun v hv => ?_) (fun v hv => ?_) (List.mem_append.mpr (.inr hzm)) (List.mem_append.mpr (.inr hzm)) ?_
      · exact List.mem_append.mpr (.inl (hp.mem_iff.mpr (.head _)))
      · rcases List.mem_append.mp hv with q | q
        · rcases hm v q with q | q
          · exact .inl q
          · exact .inr (List.mem_append.mpr (.inl (.tail _ q)))
        · exact .inr (List.mem_append.mpr (.inr q))
      · rcases List.mem_append.mp hv with q | q
        · rcases List.mem_cons.mp q with q | q
          · exact .inl q
          · exact .inr (List.mem_append.mpr (.inl (hp.mem_iff.mpr (.tail _ q))))
        · exact .inr (List.mem_append.mpr (.inr q))
      · rw [Int.natAbs_natCast, ← hy, Nat.xor_assoc, Nat.xor_self, Nat.xor_zero]
    · rw [wt_perm hp, wt_cons, Int.natAbs_natCast]
      rw [wt_cons] at hw
      omega
end
/-- what is kept -/
def Kept3 (nums : List Int) (c : List (Int × Int)) : Prop :=
  (∀ p ∈ c, (0 < p.2 ∧ p.2 < 256) ∧ p.1 = (bl p.2.natAbs : Int) - 1) ∧ c.Pairwise (fun p q => p.1 ≠ q.1) ∧ c.length ≤ 7 ∧ SameSpan (c.map (·.2)) nums
theorem kept_done {nums heap : List Int} {c : List (Int × Int)} {k : Nat} (I : KeptInv nums k heap c) (hk : 63 < k) : Kept3 nums c := by
  obtain ⟨⟨a, b, cc, d, e, f, g⟩, h⟩ := I
  have h : heap = [] := by
    rcases h with h | h
    · exact h
    · omega
  subst h
  exact ⟨cc, d, by simp only [List.length_nil] at e; omega, g⟩
end Mine
namespace Mine
section
variable {nums heap heap' pre : List Int} {x n : Int} {c : List (Int × Int)}
theorem sk_push0 : ([] : List Int).length = ([] : List Int).length ∧ ([] : List Int).Perm [] ∧ IsHeap [] :=
  ⟨rfl, .nil, fun i _ hl => by simp at hl⟩
theorem sk_push1 (h1 : heap.length = pre.length) (h2 : heap.Perm pre) (hp : heap'.Perm (heap ++ [n])) (hh : IsHeap heap') : heap'.length = (pre ++ [n]).length ∧ heap'.Perm (pre ++ [n]) ∧ IsHeap heap' := by
  refine ⟨?_, hp.trans (h2.append_right _), hh⟩
  have := hp.length_eq
  simp only [List.length_append, List.length_cons, List.length_nil] at this ⊢
  omega
theorem sk_0 (h0 : heap.length = nums.length) (hp : heap.Perm nums) (hh : IsHeap heap) (hb : ∀ x ∈ nums, 0 ≤ x ∧ x < 256) (hl : nums.length ≤ 7) : heap.length + ([] : List (Int × Int)).length ≤ 7 ∧ KeptInv nums ([] : List Int).length heap [] :=
  ⟨by simp only [List.length_nil]; omega, kept_start hp hh hb hl⟩
theorem sk_len (I : KeptInv nums pre.length heap c) : heap.length + c.length ≤ 7 := by
  have := I.1.2.2.2.2.1
  have := I.1.2.2.2.2.2.1
  omega
theorem sk_on (I : KeptInv nums (pre.length + 1) heap c) : heap.length + c.length ≤ 7 ∧ KeptInv nums (pre ++ [n]).length heap c := by
  have e : (pre ++ [n]).length = pre.length + 1 := by simp
  rw [e]
  refine ⟨?_, I⟩
  have := I.1.2.2.2.2.1
  have := I.1.2.2.2.2.2.1
  omega
theorem sk_skip (I : KeptInv nums pre.length heap c) (h : decide (heap = []) = true) : heap.length + c.length ≤ 7 ∧ KeptInv nums (pre ++ [n]).length heap c := sk_on (kept_skip I (of_decide_eq_true h))
theorem sk_zero (I : KeptInv nums pre.length heap c) (h : decide (heap = []) = false) (hp : (x :: heap').Perm heap) (hh : IsHeap heap') (h0 : x = 0) : heap'.length + c.length ≤ 7 ∧ KeptInv nums (pre ++ [n]).length heap' c := sk_on (kept_zero I (of_decide_eq_false h) hp hh h0)
theorem sk_put (I : KeptInv nums pre.length heap c) (h : decide (heap = []) = false) (hp : (x :: heap').Perm heap) (hh : IsHeap heap') (h0 : x ≠ 0) (hn : kdfHas c ((Builtin.Int.intBits x : Int) - 1) = false) :
    heap'.length + (kdfPut c ((Builtin.Int.intBits x : Int) - 1) x).length ≤ 7 ∧ KeptInv nums (pre ++ [n]).length heap' (kdfPut c ((Builtin.Int.intBits x : Int) - 1) x) := sk_on (kept_put I (of_decide_eq_false h) hp hh h0 hn)
theorem sk_rep (I : KeptInv nums pre.length heap c) (h : decide (heap = []) = false) (h0 : heap.getD (Int.toNat 0) 0 ≠ 0) (hn : kdfHas c ((Builtin.Int.intBits (heap.getD (Int.toNat 0) 0) : Int) - 1) = true)
    (hp : heap'.Perm (heap.set 0 (Builtin.bitXor (heap.getD (Int.toNat 0) 0) (kdfLook c ((Builtin.Int.intBits (heap.getD (Int.toNat 0) 0) : Int) - 1) 0)))) (hh : IsHeap heap') : heap'.length + c.length ≤ 7 ∧ KeptInv nums (pre ++ [n]).length heap' c := sk_on (kept_rep I (of_decide_eq_false h) h0 hn hp hh)
theorem sk_done (I : KeptInv nums (rangeKs 0 (99 - 0 : Int).toNat).length heap c) : Kept3 nums c := kept_done I (by rw [rangeKs_length]; decide)
end
end Mine
end
section
open PySem PySem.W
namespace Mine
theorem span_snoc {xs : List Nat} {n v : Nat} : Span (xs ++ [n]) v ↔ Span xs v ∨ Span xs (v ^^^ n) :=
  (span_same (ys := n :: xs) (fun u => by simp [or_comm]) v)
def PlInv (pre ks : List Int) : Prop := ks.length = 2 ^ pre.length ∧ (∀ s ∈ ks, 0 ≤ s ∧ s < 256) ∧ ∀ v : Nat, (v : Int) ∈ ks ↔ Span (pre.map Int.natAbs) v
theorem pl_start : PlInv [] [0] := by
  refine ⟨rfl, fun s h => by rw [List.mem_singleton.mp h]; decide, fun v => ?_⟩
  show (v : Int) ∈ [0] ↔ v = 0
  rw [List.mem_singleton]
  omega
theorem pl_turn {pre ks : List Int} {n : Int} (I : PlInv pre ks) (hn : 0 ≤ n ∧ n < 256) : PlInv (pre ++ [n]) (ks ++ ks.map fun k => Builtin.bitXor k n) := by
  obtain ⟨h1, h2, h3⟩ := I
  have hx : ∀ k ∈ ks, Builtin.bitXor k n = ((k.natAbs ^^^ n.natAbs : Nat) : Int) := fun k hk => bitXor_nat (h2 k hk).1 hn.1
  refine ⟨?_, fun s hs => ?_, fun v => ?_⟩
  · simp only [List.length_append, List.length_map, List.length_cons, List.length_nil, Nat.pow_succ, Nat.zero_add, h1]
    omega
  · rcases List.mem_append.mp hs with q | q
    · exact h2 s q
    · obtain ⟨k, hk, rfl⟩ := List.mem_map.mp q
      rw [hx k hk]
      have := h2 k hk
      have hl : k.natAbs ^^^ n.natAbs < 2 ^ 8 := Nat.xor_lt_two_pow (by omega) (by omega)
      omega
  · rw [List.map_append, List.map_cons, List.map_nil, span_snoc, ← h3, ← h3, List.mem_append]
    refine or_congr Iff.rfl ?_
    rw [List.mem_map]
    constructor
    · rintro ⟨k, hk, e⟩
      rw [hx k hk] at e
      have e : k.natAbs ^^^ n.natAbs = v := by omega
      rw [← e, Nat.xor_assoc, Nat.xor_self, Nat.xor_zero]
      have := h2 k hk
      have e2 : ((k.natAbs : Nat) : Int) = k := by omega
      rw [e2]
      exact hk
    · intro hk
      refine ⟨_, hk, ?_⟩
      rw [hx _ hk, Int.natAbs_natCast, Nat.xor_assoc, Nat.xor_self, Nat.xor_zero]
theorem pl_len {pre post ks nums : List Int} {n : Int} (I : PlInv pre ks) (h : nums = pre ++ n :: post) (hl : nums.length ≤ 7) : ks.length ≤ 64 := by
  rw [I.1]
  have := congrArg List.length h
  simp only [List.length_append, List.length_cons] at this
  have : 2 ^ pre.length ≤ 2 ^ 6 := Nat.pow_le_pow_right (by decide) (by omega)
  exact this
theorem pl_len' {nums ks : List Int} (I : PlInv nums ks) (hl : nums.length ≤ 7) : ks.length ≤ 128 := by
  rw [I.1]
  have : 2 ^ nums.length ≤ 2 ^ 7 := Nat.pow_le_pow_right (by decide) (by omega)
  exact this
end Mine
end
section
open PySem PySem.W PyProof.Rows
namespace Mine
abbrev PG : Program := PySem.Challenge.rw_nq0022_01.row.prog
section
variable {prog : Program} {w : World} {A : Around} {E : Value → Shared → Prop} {s : Shared}
theorem half_int {a : Int} {t u : Tok} {Q : Value → Shared → Prop} (h : Q (.int (a / 2) s.toks) { s with toks := s.toks + 1 }) : wpAny (model prog w) A (binaryOp .RShift (.int a t) (.int 1 u)) Q E s := by
  refine rshift_int (by decide) ?_
  have e : a.fdiv (2 ^ (1 : Int).toNat) = a / 2 := by
    show a.fdiv 2 = a / 2
    rw [Int.fdiv_eq_ediv_of_nonneg _ (by decide)]
  rw [e]
  exact h
theorem append_ints {h₀ : Heap} {L D : Addr} {m : Str → Option Value} {news news' : List (Addr × Obj)} {vs : List Value} {ns : List Int} {n : Nat} {x : Int} {t : Tok} {Q : Value → Shared → Prop} (F : Fr h₀ L s.heap m) (N : News h₀ L s.heap news)
    (U : Upd D (W.listOf vs.toArray n) (W.listOf (vs ++ [Value.int x t]).toArray (n + 1)) news news') (hI : IntsAre vs ns) (hz : ns.length < 1000)
    (h : ∀ h', Fr h₀ L h' m → News h₀ L h' news' → IntsAre (vs ++ [Value.int x t]) (ns ++ [x]) → Q .none { s with heap := h' }) : wpAny (model prog w) A (call (.builtin "list.append") [.ref D, .int x t]) Q E s := by
  have e : (vs ++ [Value.int x t]).toArray = vs.toArray.push (.int x t) := by simp
  rw [e] at U
  refine append_K F N U (fun h' F' N' => h h' F' N' (IntsAre.append hI (.cons _ _ .nil))) ?_
  rw [List.size_toArray, hI.length, sizeLine_eq]
  omega
end
/-- what a def that changes the one list it is handed keeps and gives -/
def MutC (w : World) (K : Frag) (p : Program) (loose : List Str) (mean : ExcName → Option Value) (mg mb : Str → Option Value) (f : Addr) (room : Nat) (Pre : List Int → List Int → Prop) (Post : List Int → List Int → List Int → Value → Prop) : Prop :=
  ∀ (dp un : Nat) (gd : Option (List Code)) (cn : Str) (cs : Scope) (a : Addr) (ccd : Value) (cl : List (Str × Addr)) (outer : List Env) (A₀ : Around) (base h₀ : Heap) (L : Addr) (m : Str → Option Value) (news : List (Addr × Obj)) (u : Obj → List (Addr × Obj)) (s : Shared) (l : Addr) (vs : List Value) (ns : List Int) (n : Nat) (xs : List Value) (is : List Int)
    (Q E : Value → Shared → Prop),
    Below A₀ base outer h₀ → Fr h₀ L s.heap m → K.In h₀ → News h₀ L s.heap news → UpdF l (W.listOf vs.toArray n) news u → Top p loose mean mg mb h₀ → cs.kind = .function → IntsAre vs ns → IntsAre xs is → Pre is ns → dp + room < recursionLimit → un + 8 * room < cLine →
    (∀ r h' tk' vs' ns' n', Fr h₀ L h' m → News h₀ L h' (u (W.listOf vs'.toArray n')) → IntsAre vs' ns' → Post is ns ns' r → Q r { s with heap := h', toks := tk' }) →
    wpAny (model PG w) (ktrTop dp un gd cn cs L a ccd cl outer) (call (.ref f) (.ref l :: xs)) Q E s
/-- the same with the list at the ledger's head -/
def MutH (w : World) (K : Frag) (p : Program) (loose : List Str) (mean : ExcName → Option Value) (mg mb : Str → Option Value) (f : Addr) (room : Nat) (Pre : List Int → List Int → Prop) (Post : List Int → List Int → List Int → Value → Prop) : Prop :=
  ∀ (dp un : Nat) (gd : Option (List Code)) (cn : Str) (cs : Scope) (a : Addr) (ccd : Value) (cl : List (Str × Addr)) (outer : List Env) (A₀ : Around) (base h₀ : Heap) (L : Addr) (m : Str → Option Value) (rest : List (Addr × Obj)) (s : Shared) (l : Addr) (vs : List Value) (ns : List Int) (n : Nat) (xs : List Value) (is : List Int)
    (Q E : Value → Shared → Prop),
    Below A₀ base outer h₀ → Fr h₀ L s.heap m → K.In h₀ → News h₀ L s.heap ((l, W.listOf vs.toArray n) :: rest) → OwnOff rest [l] → Top p loose mean mg mb h₀ → cs.kind = .function → IntsAre vs ns → IntsAre xs is → Pre is ns → dp + room < recursionLimit → un + 8 * room < cLine →
    (∀ r h' tk' vs' ns' n', Fr h₀ L h' m → News h₀ L h' ((l, W.listOf vs'.toArray n') :: rest) → IntsAre vs' ns' → Post is ns ns' r → Q r { s with heap := h', toks := tk' }) →
    wpAny (model PG w) (ktrTop dp un gd cn cs L a ccd cl outer) (call (.ref f) (.ref l :: xs)) Q E s
theorem mutC_of {w : World} {K : Frag} {p : Program} {loose : List Str} {mean : ExcName → Option Value} {mg mb : Str → Option Value} {f : Addr} {room : Nat} {Pre : List Int → List Int → Prop} {Post : List Int → List Int → List Int → Value → Prop}
    (H : MutH w K p loose mean mg mb f room Pre Post) : MutC w K p loose mean mg mb f room Pre Post := by
  intro dp un gd cn cs a ccd cl outer A₀ base h₀ L m news u s l vs ns n xs is Q E B F X N U T hk hI hJ hp hd hu hret
  obtain ⟨pre, post, rfl, hg, hpre, hpost⟩ := U.split
  refine H dp un gd cn cs a ccd cl outer A₀ base h₀ L m (pre ++ post) s l vs ns n xs is Q E B F X ?_ ?_ T hk hI hJ hp hd hu ?_
  · intro q hq
    apply N
    simp only [List.mem_cons, List.mem_append] at hq ⊢
    rcases hq with h | h | h
    · exact .inr (.inl h)
    · exact .inl h
    · exact .inr (.inr h)
  · intro q hq b hb
    rw [List.mem_singleton.mp hb]
    rcases List.mem_append.mp hq with h | h
    · exact hpre q h
    · exact hpost q h
  · intro r h' tk' vs' ns' n' F' N' hI' hP
    refine hret r h' tk' vs' ns' n' F' ?_ hI' hP
    rw [hg]
    intro q hq
    apply N'
    simp only [List.mem_cons, List.mem_append] at hq ⊢
    rcases hq with h | h | h
    · exact .inr (.inl h)
    · exact .inl h
    · exact .inr (.inr h)
theorem mut_use {w : World} {K : Frag} {p : Program} {loose : List Str} {mean : ExcName → Option Value} {mg mb : Str → Option Value} {f : Addr} {room : Nat} {Pre : List Int → List Int → Prop} {Post : List Int → List Int → List Int → Value → Prop}
    {dp un : Nat} {gd : Option (List Code)} {cn : Str} {cs : Scope} {a : Addr} {ccd : Value} {cl : List (Str × Addr)} {outer : List Env} {A₀ : Around} {base h₀ : Heap} {L : Addr} {m : Str → Option Value} {news : List (Addr × Obj)} {u : Obj → List (Addr × Obj)} {s : Shared} {l : Addr} {vs : List Value} {ns : List Int} {n : Nat} {xs : List Value} {is : List Int} {Q E : Value → Shared → Prop}
    (C : MutC w K p loose mean mg mb f room Pre Post) (B : Below A₀ base outer h₀) (F : Fr h₀ L s.heap m) (X : K.In h₀) (N : News h₀ L s.heap news) (U : UpdF l (W.listOf vs.toArray n) news u) (T : Top p loose mean mg mb h₀) (hk : cs.kind = .function) (hI : IntsAre vs ns) (hJ : IntsAre xs is) (hp : Pre is ns) (hd : dp + room < recursionLimit) (hu : un + 8 * room < cLine)
    (ret : ∀ r h' tk' vs' ns' n', Fr h₀ L h' m → News h₀ L h' (u (W.listOf vs'.toArray n')) → IntsAre vs' ns' → Post is ns ns' r → Q r { s with heap := h', toks := tk' }) :
    wpAny (model PG w) (ktrTop dp un gd cn cs L a ccd cl outer) (call (.ref f) (.ref l :: xs)) Q E s := C _ _ _ _ _ _ _ _ _ _ _ _ _ _ _ _ _ _ _ _ _ _ _ _ _ B F X N U T hk hI hJ hp hd hu ret
theorem ints0 {xs : List Value} (h : IntsAre xs []) : xs = [] := by
  cases h; rfl
theorem ints1 {xs : List Value} {a : Int} (h : IntsAre xs [a]) : ∃ t, xs = [.int a t] := by
  cases h with | cons i t h => cases h; exact ⟨_, rfl⟩
theorem ints2 {xs : List Value} {a b : Int} (h : IntsAre xs [a, b]) : ∃ t u, xs = [.int a t, .int b u] := by
  cases h with | cons i t h => obtain ⟨u, rfl⟩ := ints1 h; exact ⟨_, _, rfl⟩
end Mine
end
section
open PySem PySem.W PyProof.Rows
namespace Mine
def SdPre (is ns : List Int) : Prop := ∃ p : Int, is = [0, p] ∧ 0 ≤ p ∧ p < ns.length ∧ ns.length < 100 ∧ HeapBut ns p.toNat
def SdPost (_ ns ns' : List Int) (r : Value) : Prop := ns'.Perm ns ∧ IsHeap ns' ∧ r = .none
theorem sd_post {is h0 h : List Int} {x p : Int} (I : SdInv x h0 h p) (hx : ¬ 0 < p ∨ ¬ x < h.getD ((p - 1) / 2).toNat 0) : SdPost is h0 (h.set p.toNat x) .none :=
  ⟨(sd_end I hx).1, (sd_end I hx).2, rfl⟩
local macro_rules | `(tactic| walk_at "binaryOp RShift int int") => `(tactic| (k_here; (with_reducible refine half_int ?_)))
set_option maxRecDepth 100000 in
set_option maxHeartbeats 8000000 in
theorem siftdown_H (w : World) (mean : ExcName → Option Value) (mg mb : Str → Option Value) : MutH w (hd.heap_39 w.params) hd.view_39 (looseW hd.view_39 []) mean mg mb 49 1 SdPre SdPost := by
  intro dp un gd cn cs a ccd cl outer A₀ base h₀ L m rest s l vs ns n xs is Q E B F X N O T hk hI hJ hpre hd hu hret
  obtain ⟨p0, rfl, h1, h2, h3, h4⟩ := hpre
  obtain ⟨t0, t1, rfl⟩ := ints2 hJ
  clear hJ
  k_with_none
  k_with "exec While Compare cons nil" => k_while_given ["newitem", "startpos", "pos!", "heap!"] (fun newitem startpos pos0 heap0 script heap pos => startpos = 0 ∧ heap.length < 100 ∧ 0 ≤ pos ∧ pos < heap.length ∧ SdInv newitem heap0 heap pos) (fun newitem startpos pos0 heap0 script heap pos => pos.toNat) "heap" "pos"
  k_with "state" => first
   | (refine ⟨rfl, h3, h1, h2, sd_start h1 h2 h4⟩)
   | (refine ⟨rfl, by (simp only [List.length_set]; omega), by omega, by (simp only [List.length_set]; omega), sd_turn (by assumption) (by assumption) (by assumption)⟩)
  w_on
  w_strict (
    unfold PG
    revert X; k_fill; intro X
    refine wpAny_call ?_
    k_dflt ktr_enter
    k_steps
    all_goals exact hret _ _ _ _ _ _ (by assumption) (by assumption) (by assumption) (sd_post (by assumption) (by first | exact .inl (by assumption) | exact .inr (by assumption))))
end Mine
end
section
open PySem PySem.W PyProof.Rows
namespace Mine
def SuPre (is ns : List Int) : Prop := is = [0] ∧ 0 < ns.length ∧ ns.length < 100 ∧ HeapHole ns 0
theorem su_sd {h0 h : List Int} {x p : Int} (I : SuInv x h0 h p) (h1 : ¬ 2 * p + 1 < h.length) (h2 : h.length < 100) : SdPre [0, p] (h.set p.toNat x) :=
  ⟨p, rfl, I.2.1, by rw [List.length_set]; exact I.2.2.1, by rw [List.length_set]; exact h2, (su_end I h1).2⟩
theorem su_post {is h0 h ns' : List Int} {x p : Int} {r : Value} (I : SuInv x h0 h p) (h1 : ¬ 2 * p + 1 < h.length) (h2 : ns'.Perm (h.set p.toNat x)) (h3 : IsHeap ns') (h4 : r = .none) : SdPost is h0 ns' r :=
  ⟨h2.trans (su_end I h1).1, h3, h4⟩
local macro_rules | `(tactic| walk_at "no such key") => `(tactic| skip)
local macro_rules | `(tactic| walk_at "call ref") => `(tactic| (k_here; (with_reducible show wpAny _ _ (call (Value.ref 49) _) _ _ _); k_dflt (refine' mut_use (mutC_of (siftdown_H _ _ _ _)) ?k1 ?k2 ?k3 ?k4 ?k5 ?k6 ?kK ?kI ?kJ ?kP ?kd ?ku ?_; (case k1 => k_asm); (case k2 => k_asm); (case k3 => k_asm); (case k4 => k_asm); (case k5 => k_updF); (case k6 => k_asm); (case kK => first | exact rfl | assumption); (case kI => first | with_reducible assumption | assumption); (case kJ => exact .cons _ _ (.cons _ _ .nil)); (case kP => exact su_sd (by assumption) (by omega) (by omega)); (case kd => ktr_room); (case ku => ktr_units)); intro r9 h9 tk9 vs9 ns9 n9 F9 N9 hI9 hP9; (obtain ⟨hp9, hh9, hr9⟩ := hP9); (try dsimp only at N9); (try subst hr9); (try dsimp only); (try k_fold)))
set_option maxRecDepth 100000 in
set_option maxHeartbeats 8000000 in
theorem siftup_H (w : World) (mean : ExcName → Option Value) (mg mb : Str → Option Value) : MutH w (hd.heap_39 w.params) hd.view_39 (looseW hd.view_39 []) mean mg mb 56 2 SuPre SdPost := by
  intro dp un gd cn cs a ccd cl outer A₀ base h₀ L m rest s l vs ns n xs is Q E B F X N O T hk hI hJ hpre hd hu hret
  obtain ⟨rfl, h2, h3, h4⟩ := hpre
  obtain ⟨t0, rfl⟩ := ints1 hJ
  clear hJ
  k_with_none
  k_with "exec While Compare cons nil" => k_while_given ["newitem", "endpos", "heap!"] (fun newitem endpos heap0 script heap pos childpos => endpos = heap.length ∧ heap.length < 100 ∧ 0 ≤ pos ∧ pos < heap.length ∧ childpos = 2 * pos + 1 ∧ SuInv newitem heap0 heap pos) (fun newitem endpos heap0 script heap pos childpos => heap.length - pos.toNat) "heap" "pos" "childpos"
  k_with "measure" => (simp only [List.length_set]; omega)
  k_with "state" => first
   | (refine ⟨rfl, h3, by omega, by omega, rfl, su_start h2 h4⟩)
   | (refine ⟨by (simp only [List.length_set]; omega), by (simp only [List.length_set]; omega), by omega, by (simp only [List.length_set]; omega), rfl, ?_⟩; first
      | exact su_turn1 (by assumption) (by assumption) (by omega) (by omega)
      | exact su_turn2 (by assumption) (by assumption) (by omega) (by assumption)
      | exact su_turn3 (by assumption) (by assumption) (by omega) (by assumption))
  w_on
  w_strict (
    unfold PG
    revert X; k_fill; intro X
    refine wpAny_call ?_
    k_dflt ktr_enter
    k_steps
    all_goals exact hret _ _ _ _ _ _ (by assumption) (by assumption) (by assumption) (su_post (by assumption) (by omega) (by assumption) (by assumption) rfl))
end Mine
end
section
open PySem PySem.W PyProof.Rows
namespace Mine
def PushPre (is ns : List Int) : Prop := (∃ x, is = [x]) ∧ IsHeap ns ∧ ns.length < 99
def PushPost (is ns ns' : List Int) (r : Value) : Prop := ns'.Perm (ns ++ is) ∧ IsHeap ns' ∧ r = .none
theorem push_sd {ns : List Int} {x p : Int} (h : IsHeap ns) (h1 : ns.length < 99) (hp : p = ns.length) : SdPre [0, p] (ns ++ [x]) := by
  subst hp
  exact ⟨_, rfl, by omega, by simp only [List.length_append, List.length_cons, List.length_nil]; omega, by simp only [List.length_append, List.length_cons, List.length_nil]; omega, by rw [Int.toNat_natCast]; exact push_but h⟩
local macro_rules | `(tactic| walk_at "no such key") => `(tactic| skip)
local macro_rules | `(tactic| walk_at "call builtin:list.append") => `(tactic| (k_here; (show wpAny _ _ (call (Value.builtin "list.append") [Value.ref _, Value.int _ _]) _ _ _); k_dflt (refine' append_ints ?k1 ?k2 ?k3 ?k4 ?k5 ?_; (case k1 => k_asm); (case k2 => k_asm); (case k3 => k_upd); (case k4 => first | with_reducible assumption | assumption); (case k5 => omega); k_whole); intro h' F' N' hI9; (try k_sweep)))
local macro_rules | `(tactic| walk_at "call ref") => `(tactic| (k_here; (with_reducible show wpAny _ _ (call (Value.ref 49) _) _ _ _); k_dflt (refine' mut_use (mutC_of (siftdown_H _ _ _ _)) ?k1 ?k2 ?k3 ?k4 ?k5 ?k6 ?kK ?kI ?kJ ?kP ?kd ?ku ?_; (case k1 => k_asm); (case k2 => k_asm); (case k3 => k_asm); (case k4 => k_asm); (case k5 => k_updF); (case k6 => k_asm); (case kK => first | exact rfl | assumption); (case kI => first | with_reducible assumption | assumption); (case kJ => exact .cons _ _ (.cons _ _ .nil)); (case kP => exact push_sd (by assumption) (by omega) (by omega)); (case kd => ktr_room); (case ku => ktr_units)); intro r9 h9 tk9 vs9 ns9 n9 F9 N9 hI9 hP9; (obtain ⟨hp9, hh9, hr9⟩ := hP9); (try dsimp only at N9); (try subst hr9); (try dsimp only); (try k_fold)))
set_option maxRecDepth 100000 in
set_option maxHeartbeats 8000000 in
theorem heappush_H (w : World) (mean : ExcName → Option Value) (mg mb : Str → Option Value) : MutH w (hd.heap_39 w.params) hd.view_39 (looseW hd.view_39 []) mean mg mb 28 2 PushPre PushPost := by
  intro dp un gd cn cs a ccd cl outer A₀ base h₀ L m rest s l vs ns n xs is Q E B F X N O T hk hI hJ hpre hd hu hret
  obtain ⟨⟨x0, rfl⟩, h2, h3⟩ := hpre
  obtain ⟨t0, rfl⟩ := ints1 hJ
  clear hJ
  k_with_none
  w_on
  w_strict (
    unfold PG
    revert X; k_fill; intro X
    refine wpAny_call ?_
    k_dflt ktr_enter
    k_steps
    all_goals exact hret _ _ _ _ _ _ (by assumption) (by assumption) (by assumption) ⟨by assumption, by assumption, rfl⟩)
end Mine
end
section
open PySem PySem.W PyProof.Rows
namespace Mine
def PopPre (is ns : List Int) : Prop := is = [] ∧ IsHeap ns ∧ 0 < ns.length ∧ ns.length < 100
def PopPost (_ ns ns' : List Int) (r : Value) : Prop := (ns.getD (Int.toNat 0) 0 :: ns').Perm ns ∧ IsHeap ns' ∧ ∃ t, r = .int (ns.getD (Int.toNat 0) 0) t
def RepPre (is ns : List Int) : Prop := (∃ x, is = [x]) ∧ IsHeap ns ∧ 0 < ns.length ∧ ns.length < 100
def RepPost (is ns ns' : List Int) (r : Value) : Prop := (∀ x, is = [x] → ns'.Perm (ns.set 0 x)) ∧ IsHeap ns' ∧ ∃ t, r = .int (ns.getD (Int.toNat 0) 0) t
theorem pop_su {ns : List Int} (h : IsHeap ns) (h0 : 0 < ns.dropLast.length) (h1 : ns.length < 100) : SuPre [0] (ns.dropLast.set (Int.toNat 0) (ns.getLastD 0)) := by
  have := List.length_dropLast (xs := ns)
  exact ⟨rfl, by rw [List.length_set]; exact h0, by rw [List.length_set]; omega, hole_of_heap (heap_dropLast h) _⟩
theorem pop_post {is ns ns' : List Int} {t : Tok} (h0 : 0 < ns.dropLast.length) (hp : ns'.Perm (ns.dropLast.set (Int.toNat 0) (ns.getLastD 0))) (hh : IsHeap ns') : PopPost is ns ns' (.int (ns.dropLast.getD (Int.toNat 0) 0) t) := by
  have hl := List.length_dropLast (xs := ns)
  have e : ns.dropLast.getD (Int.toNat 0) 0 = ns.getD (Int.toNat 0) 0 := getD_dropLast (by show 0 < ns.length - 1; omega)
  refine ⟨?_, hh, t, by rw [e]⟩
  rw [← e]
  refine (List.Perm.cons _ hp).trans ((set0_perm h0).trans ?_)
  have k := dropLast_last (ns := ns) (by omega)
  have p : (ns.getLastD 0 :: ns.dropLast).Perm (ns.dropLast ++ [ns.getLastD 0]) := (List.perm_append_singleton _ _).symm
  rw [k] at p
  exact p
theorem pop_post0 {is ns : List Int} {t : Tok} (h1 : 0 < ns.length) (h0 : ¬ 0 < ns.dropLast.length) : PopPost is ns ns.dropLast (.int (ns.getLastD 0) t) := by
  have hl := List.length_dropLast (xs := ns)
  match ns, h1, h0, hl with
  | [a], _, _, _ => exact ⟨List.Perm.refl _, fun i hi hl => by simp at hl, t, rfl⟩
  | [], h1, _, _ => simp at h1
  | a :: b :: r, _, h0, hl => simp at h0
theorem rep_su {ns : List Int} {x : Int} (h : IsHeap ns) (h0 : 0 < ns.length) (h1 : ns.length < 100) : SuPre [0] (ns.set (Int.toNat 0) x) :=
  ⟨rfl, by rw [List.length_set]; exact h0, by rw [List.length_set]; exact h1, hole_of_heap h _⟩
section
local macro_rules | `(tactic| walk_at "truthy ref") => `(tactic| (k_here; (with_reducible show wpAny _ _ (truthy (Value.ref _)) _ _ _); (with_unfolding_all refine' truthy_ints_fit ?k1 ?k2 ?k3 ?_; (case k1 => is_list); (case k2 => with_reducible assumption); (case k3 => (simp only [List.length_dropLast]; omega)); k_whole)))
local macro_rules | `(tactic| walk_at "call ref") => `(tactic| (k_here; (with_reducible show wpAny _ _ (call (Value.ref 56) _) _ _ _); k_dflt (refine' mut_use (mutC_of (siftup_H _ _ _ _)) ?k1 ?k2 ?k3 ?k4 ?k5 ?k6 ?kK ?kI ?kJ ?kP ?kd ?ku ?_; (case k1 => k_asm); (case k2 => k_asm); (case k3 => k_asm); (case k4 => k_asm); (case k5 => k_updF); (case k6 => k_asm); (case kK => first | exact rfl | assumption); (case kI => first | with_reducible assumption | assumption); (case kJ => exact .cons _ _ .nil); (case kP => first | exact pop_su (by assumption) (by assumption) (by omega) | exact pop_su (by assumption) (by omega) (by omega) | exact rep_su (by assumption) (by assumption) (by assumption)); (case kd => ktr_room); (case ku => ktr_units)); intro r9 h9 tk9 vs9 ns9 n9 F9 N9 hI9 hP9; (obtain ⟨hp9, hh9, hr9⟩ := hP9); (try dsimp only at N9); (try subst hr9); (try dsimp only); (try k_fold)))
set_option maxRecDepth 100000 in
set_option maxHeartbeats 8000000 in
theorem heappop_H (w : World) (mean : ExcName → Option Value) (mg mb : Str → Option Value) : MutH w (hd.heap_39 w.params) hd.view_39 (looseW hd.view_39 []) mean mg mb 35 3 PopPre PopPost := by
  intro dp un gd cn cs a ccd cl outer A₀ base h₀ L m rest s l vs ns n xs is Q E B F X N O T hk hI hJ hpre hd hu hret
  obtain ⟨rfl, h1, h2, h3⟩ := hpre
  obtain rfl := ints0 hJ
  clear hJ
  have hlen := hI.length
  k_with_none
  w_on
  w_strict (
    unfold PG
    revert X; k_fill; intro X
    refine wpAny_call ?_
    k_dflt ktr_enter
    k_steps
    all_goals first
      | exact hret _ _ _ _ _ _ (by assumption) (by assumption) (by assumption) (pop_post (by assumption) (by assumption) (by assumption))
      | exact hret _ _ _ _ _ _ (by assumption) (by assumption) (by assumption) (pop_post0 (by assumption) (by assumption)))
set_option maxRecDepth 100000 in
set_option maxHeartbeats 8000000 in
theorem heapreplace_H (w : World) (mean : ExcName → Option Value) (mg mb : Str → Option Value) : MutH w (hd.heap_39 w.params) hd.view_39 (looseW hd.view_39 []) mean mg mb 42 3 RepPre RepPost := by
  intro dp un gd cn cs a ccd cl outer A₀ base h₀ L m rest s l vs ns n xs is Q E B F X N O T hk hI hJ hpre hd hu hret
  obtain ⟨⟨x0, rfl⟩, h1, h2, h3⟩ := hpre
  obtain ⟨t0, rfl⟩ := ints1 hJ
  clear hJ
  k_with_none
  w_on
  w_strict (
    unfold PG
    revert X; k_fill; intro X
    refine wpAny_call ?_
    k_dflt ktr_enter
    k_steps
    all_goals exact hret _ _ _ _ _ _ (by assumption) (by assumption) (by assumption) ⟨fun x9 e9 => (by obtain rfl := List.head_eq_of_cons_eq e9; assumption), by assumption, _, rfl⟩)
end
end Mine
end
section
open PySem PySem.W PyProof.Rows
namespace Mine
/-- _high_bit, once -/
def HbC (w : World) (K : Frag) (p : Program) (loose : List Str) (mean : ExcName → Option Value) (mg mb : Str → Option Value) : Prop :=
  ∀ (dp un : Nat) (gd : Option (List Code)) (cn : Str) (cs : Scope) (a : Addr) (ccd : Value) (cl : List (Str × Addr)) (outer : List Env) (A₀ : Around) (base h₀ : Heap) (L : Addr) (m : Str → Option Value) (news : List (Addr × Obj)) (s : Shared) (x : Int) (t : Tok)
    (Q E : Value → Shared → Prop),
    Below A₀ base outer h₀ → Fr h₀ L s.heap m → K.In h₀ → News h₀ L s.heap news → Top p loose mean mg mb h₀ → cs.kind = .function → dp + 1 < recursionLimit → un + 8 * 1 < cLine →
    (∀ h' tk' t', Fr h₀ L h' m → News h₀ L h' news → Q (.int (Builtin.Int.intBits x - 1) t') { s with heap := h', toks := tk' }) →
    wpAny (model PG w) (ktrTop dp un gd cn cs L a ccd cl outer) (call (.ref 21) [.int x t]) Q E s
theorem hb_use {w : World} {K : Frag} {p : Program} {loose : List Str} {mean : ExcName → Option Value} {mg mb : Str → Option Value}
    {dp un : Nat} {gd : Option (List Code)} {cn : Str} {cs : Scope} {a : Addr} {ccd : Value} {cl : List (Str × Addr)} {outer : List Env} {A₀ : Around} {base h₀ : Heap} {L : Addr} {m : Str → Option Value} {news : List (Addr × Obj)} {s : Shared} {x : Int} {t : Tok} {Q E : Value → Shared → Prop}
    (C : HbC w K p loose mean mg mb) (B : Below A₀ base outer h₀) (F : Fr h₀ L s.heap m) (X : K.In h₀) (N : News h₀ L s.heap news) (T : Top p loose mean mg mb h₀) (hk : cs.kind = .function) (hd : dp + 1 < recursionLimit) (hu : un + 8 * 1 < cLine)
    (ret : ∀ h' tk' t', Fr h₀ L h' m → News h₀ L h' news → Q (.int (Builtin.Int.intBits x - 1) t') { s with heap := h', toks := tk' }) :
    wpAny (model PG w) (ktrTop dp un gd cn cs L a ccd cl outer) (call (.ref 21) [.int x t]) Q E s := C _ _ _ _ _ _ _ _ _ _ _ _ _ _ _ _ _ _ _ _ B F X N T hk hd hu ret
set_option maxRecDepth 100000 in
set_option maxHeartbeats 8000000 in
theorem high_bit_H (w : World) (mean : ExcName → Option Value) (mg mb : Str → Option Value) : HbC w (hd.heap_39 w.params) hd.view_39 (looseW hd.view_39 []) mean mg mb := by
  intro dp un gd cn cs a ccd cl outer A₀ base h₀ L m news s x t Q E B F X N T hk hd hu hret
  k_with_none
  w_on
  w_strict (
    unfold PG
    revert X; k_fill; intro X
    refine wpAny_call ?_
    k_dflt ktr_enter
    k_steps
    all_goals exact hret _ _ _ (by assumption) (by assumption))
end Mine
end
section
open PySem PySem.W PyProof.Rows
namespace Mine
/-- what a def that reads one list of ints and makes one object gives -/
def MakeC (w : World) (K : Frag) (p : Program) (loose : List Str) (mean : ExcName → Option Value) (mg mb : Str → Option Value) (f : Addr) (room : Nat) (Pre : List Int → Prop) (Post : List Int → Obj → Prop) : Prop :=
  ∀ (dp un : Nat) (gd : Option (List Code)) (cn : Str) (cs : Scope) (a : Addr) (ccd : Value) (cl : List (Str × Addr)) (outer : List Env) (A₀ : Around) (base h₀ : Heap) (L : Addr) (m : Str → Option Value) (rest : List (Addr × Obj)) (s : Shared) (l : Addr) (vs : List Value) (ns : List Int) (n : Nat)
    (Q E : Value → Shared → Prop),
    Below A₀ base outer h₀ → Fr h₀ L s.heap m → K.In h₀ → News h₀ L s.heap ((l, W.listOf vs.toArray n) :: rest) → Top p loose mean mg mb h₀ → cs.kind = .function → IntsAre vs ns → Pre ns → dp + room < recursionLimit → un + 8 * room < cLine →
    (∀ D o h' tk', Fr h₀ L h' m → News h₀ L h' ((D, o) :: (l, W.listOf vs.toArray n) :: rest) → AllLt D rest → l < D → Post ns o → Q (.ref D) { s with heap := h', toks := tk' }) →
    wpAny (model PG w) (ktrTop dp un gd cn cs L a ccd cl outer) (call (.ref f) [.ref l]) Q E s
def NumsPre (ns : List Int) : Prop := (∀ x ∈ ns, 0 ≤ x ∧ x < 256) ∧ ns.length ≤ 7
def ToldPost (ns : List Int) (o : Obj) : Prop := ∃ vs' ns' n', o = W.listOf (List.toArray vs') n' ∧ IntsAre vs' ns' ∧ Told3 ns ns'
theorem told_pop {nums heap told : List Int} (I : ToldInv nums heap told) (h : decide (heap = []) = false) : PopPre [] heap := by
  have h := of_decide_eq_false h
  refine ⟨rfl, I.1.1, List.length_pos_iff.mpr h, ?_⟩
  have := I.1.2.2.2.1
  have := I.1.2.2.2.2.1
  omega
theorem told_rep {nums heap told : List Int} {number x : Int} (I : ToldIn nums number heap told) (h : decide (heap = []) = false) : RepPre [x] heap := by
  have h := of_decide_eq_false h
  refine ⟨⟨_, rfl⟩, I.1.1, List.length_pos_iff.mpr h, ?_⟩
  have := I.1.2.2.2.1
  have := I.1.2.2.2.2.1
  omega
theorem idx0 {xs : List Int} (h : decide (xs = []) = false) : (0 : Int) < xs.length := by
  have := List.length_pos_iff.mpr (of_decide_eq_false h)
  omega
section
local macro_rules | `(tactic| l_idx) => `(tactic| exact idx0 (by assumption))
local macro_rules | `(tactic| units_room) => `(tactic| ktr_units)
local macro_rules | `(tactic| walk_at "call builtin:list.append") => `(tactic| (k_here; (show wpAny _ _ (call (Value.builtin "list.append") [Value.ref _, Value.int _ _]) _ _ _); k_dflt (refine' append_ints ?k1 ?k2 ?k3 ?k4 ?k5 ?_; (case k1 => k_asm); (case k2 => k_asm); (case k3 => k_upd); (case k4 => first | with_reducible assumption | assumption); (case k5 => omega); k_whole); intro h' F' N' hI9; (try k_sweep)))
local macro_rules | `(tactic| walk_at "call ref") => `(tactic| (k_here; (with_reducible show wpAny _ _ (call (Value.ref 28) _) _ _ _); k_dflt (refine' mut_use (mutC_of (heappush_H _ _ _ _)) ?k1 ?k2 ?k3 ?k4 ?k5 ?k6 ?kK ?kI ?kJ ?kP ?kd ?ku ?_; (case k1 => k_asm); (case k2 => k_asm); (case k3 => k_asm); (case k4 => k_asm); (case k5 => k_updF); (case k6 => k_asm); (case kK => first | exact rfl | assumption); (case kI => first | with_reducible assumption | assumption); (case kJ => exact .cons _ _ .nil); (case kP => exact ⟨⟨_, rfl⟩, by assumption, by omega⟩); (case kd => ktr_room); (case ku => ktr_units)); intro r9 h9 tk9 vs9 ns9 n9 F9 N9 hI9 hP9; (obtain ⟨hp9, hh9, hr9⟩ := hP9); (try dsimp only at N9); (try subst hr9); (try dsimp only); (try k_fold)))
local macro_rules | `(tactic| walk_at "call ref") => `(tactic| (k_here; (with_reducible show wpAny _ _ (call (Value.ref 35) _) _ _ _); k_dflt (refine' mut_use (mutC_of (heappop_H _ _ _ _)) ?k1 ?k2 ?k3 ?k4 ?k5 ?k6 ?kK ?kI ?kJ ?kP ?kd ?ku ?_; (case k1 => k_asm); (case k2 => k_asm); (case k3 => k_asm); (case k4 => k_asm); (case k5 => k_updF); (case k6 => k_asm); (case kK => first | exact rfl | assumption); (case kI => first | with_reducible assumption | assumption); (case kJ => exact .nil); (case kP => exact told_pop (by assumption) (by assumption)); (case kd => ktr_room); (case ku => ktr_units)); intro r9 h9 tk9 vs9 ns9 n9 F9 N9 hI9 hP9; (obtain ⟨hp9, hh9, t9, hr9⟩ := hP9); (try dsimp only at N9); (subst hr9); (try dsimp only); (try k_fold)))
local macro_rules | `(tactic| walk_at "call ref") => `(tactic| (k_here; (with_reducible show wpAny _ _ (call (Value.ref 42) _) _ _ _); k_dflt (refine' mut_use (mutC_of (heapreplace_H _ _ _ _)) ?k1 ?k2 ?k3 ?k4 ?k5 ?k6 ?kK ?kI ?kJ ?kP ?kd ?ku ?_; (case k1 => k_asm); (case k2 => k_asm); (case k3 => k_asm); (case k4 => k_asm); (case k5 => k_updF); (case k6 => k_asm); (case kK => first | exact rfl | assumption); (case kI => first | with_reducible assumption | assumption); (case kJ => exact .cons _ _ .nil); (case kP => exact told_rep (by assumption) (by assumption)); (case kd => ktr_room); (case ku => ktr_units)); intro r9 h9 tk9 vs9 ns9 n9 F9 N9 hI9 hP9; (obtain ⟨hq9, hh9, t9, hr9⟩ := hP9); (have hp9 := hq9 _ rfl); (clear hq9); (try dsimp only at N9); (subst hr9); (try dsimp only); (try k_fold)))
local macro_rules | `(tactic| walk_at "call ref") => `(tactic| (k_here; (with_reducible show wpAny _ _ (call (Value.ref 21) _) _ _ _); k_dflt (refine' hb_use (high_bit_H _ _ _ _) ?k1 ?k2 ?k3 ?k4 ?k6 ?kK ?kd ?ku ?_; (case k1 => k_asm); (case k2 => k_asm); (case k3 => k_asm); (case k4 => k_asm); (case k6 => k_asm); (case kK => first | exact rfl | assumption); (case kd => ktr_room); (case ku => ktr_units)); intro h9 tk9 t9 F9 N9; (try dsimp only); (try k_fold)))
set_option maxRecDepth 100000 in
set_option maxHeartbeats 8000000 in
theorem told_H (w : World) (mean : ExcName → Option Value) (mg mb : Str → Option Value) : MakeC w (hd.heap_39 w.params) hd.view_39 (looseW hd.view_39 []) mean mg mb 63 30 NumsPre ToldPost := by
  intro dp un gd cn cs a ccd cl outer A₀ base h₀ L m rest s l vs ns n Q E B F X N T hk hI hpre hd hu hret
  obtain ⟨h1, h2⟩ := hpre
  k_with_none
  k_with "pyIter ref" => k_state (fun pre heap => heap.length = pre.length ∧ heap.Perm (pre.map fun x => -x) ∧ IsHeap heap) "heap"
  k_with "exec While Compare cons nil" => k_while_given ["numbers"] (fun nums script heap told => heap.length + told.length ≤ 7 ∧ ToldInv nums heap told) (fun nums script heap told => heap.length) "heap" "told"
  k_with "exec While BoolOp cons nil" => k_while_given ["numbers", "number", "told", "heap!"] (fun nums number told heap0 script heap => heap.length = heap0.length ∧ heap.length + told.length ≤ 7 ∧ ToldIn nums number heap told) (fun nums number told heap0 script heap => (heap.map Int.natAbs).sum) "heap"
  k_with "state" => first
    | exact st_push0
    | exact st_push1 (by assumption) (by assumption) (by assumption) (by assumption)
    | exact st_out0 (by assumption) (by assumption) (by assumption) h1 h2
    | exact st_in0 (by assumption) (by assumption) (by assumption) (by assumption) (by assumption)
    | exact st_in1 (by assumption) (by assumption) (by assumption) (by assumption) (by assumption) (by assumption) (by assumption)
    | exact st_out1 (by assumption) (by assumption) (by assumption)
    | exact st_out2 (by assumption) (by assumption) (by assumption)
    | exact st_out3 (by assumption) (by assumption) (by assumption) (by assumption) (by assumption)
  k_with "measure" => first
    | exact ms_in1 (by assumption) (by assumption) (by assumption) (by assumption) (by assumption)
    | exact ms_out rfl (by assumption)
    | exact ms_out (by assumption) (by assumption)
  w_on
  w_strict (
    unfold PG
    revert X; k_fill; intro X
    refine wpAny_call ?_
    k_dflt ktr_enter
    k_steps
    all_goals first
      | exact absurd rfl (by assumption)
      | exact hret _ _ _ _ (by assumption) (kst_newsOf (by assumption) (List.forall_mem_cons.mpr ⟨by k_mem, List.forall_mem_cons.mpr ⟨by k_mem, fun p9 h9 => by simp only [List.mem_cons, h9, or_true]⟩⟩)) (And.right (And.right (by assumption))) (And.left (And.right (by assumption))) ⟨_, _, _, rfl, by assumption, told_done (by assumption) (of_decide_eq_true (by assumption))⟩)
end
end Mine
end
section
open PySem PySem.W PyProof.Rows
namespace Mine
def KeptPost (w : World) (ns : List Int) (o : Obj) : Prop := ∃ kvs c, o.IsDictOf (PySem.intKind PG w) kvs ∧ PyProof.V.FlatPairs PyData.int kvs (kdfD c) ∧ Kept3 ns c
theorem kept_pop {nums heap : List Int} {c : List (Int × Int)} {k : Nat} (I : KeptInv nums k heap c) (h : decide (heap = []) = false) : PopPre [] heap := by
  have h := of_decide_eq_false h
  refine ⟨rfl, I.1.1, List.length_pos_iff.mpr h, ?_⟩
  have := I.1.2.2.2.2.1
  have := I.1.2.2.2.2.2.1
  omega
theorem kept_repl {nums heap : List Int} {c : List (Int × Int)} {k : Nat} {x : Int} (I : KeptInv nums k heap c) (h : decide (heap = []) = false) : RepPre [x] heap :=
  ⟨⟨_, rfl⟩, (kept_pop I h).2⟩
section
local macro_rules | `(tactic| units_room) => `(tactic| ktr_units)
local macro_rules | `(tactic| l_idx) => `(tactic| exact idx0 (by assumption))
local macro_rules | `(tactic| walk_at "call ref") => `(tactic| (k_here; (with_reducible show wpAny _ _ (call (Value.ref 28) _) _ _ _); k_dflt (refine' mut_use (mutC_of (heappush_H _ _ _ _)) ?k1 ?k2 ?k3 ?k4 ?k5 ?k6 ?kK ?kI ?kJ ?kP ?kd ?ku ?_; (case k1 => k_asm); (case k2 => k_asm); (case k3 => k_asm); (case k4 => k_asm); (case k5 => k_updF); (case k6 => k_asm); (case kK => first | exact rfl | assumption); (case kI => first | with_reducible assumption | assumption); (case kJ => exact .cons _ _ .nil); (case kP => exact ⟨⟨_, rfl⟩, by assumption, by omega⟩); (case kd => ktr_room); (case ku => ktr_units)); intro r9 h9 tk9 vs9 ns9 n9 F9 N9 hI9 hP9; (obtain ⟨hp9, hh9, hr9⟩ := hP9); (try dsimp only at N9); (try subst hr9); (try dsimp only); (try k_fold)))
local macro_rules | `(tactic| walk_at "call ref") => `(tactic| (k_here; (with_reducible show wpAny _ _ (call (Value.ref 35) _) _ _ _); k_dflt (refine' mut_use (mutC_of (heappop_H _ _ _ _)) ?k1 ?k2 ?k3 ?k4 ?k5 ?k6 ?kK ?kI ?kJ ?kP ?kd ?ku ?_; (case k1 => k_asm); (case k2 => k_asm); (case k3 => k_asm); (case k4 => k_asm); (case k5 => k_updF); (case k6 => k_asm); (case kK => first | exact rfl | assumption); (case kI => first | with_reducible assumption | assumption); (case kJ => exact .nil); (case kP => exact kept_pop (by assumption) (by assumption)); (case kd => ktr_room); (case ku => ktr_units)); intro r9 h9 tk9 vs9 ns9 n9 F9 N9 hI9 hP9; (obtain ⟨hp9, hh9, t9, hr9⟩ := hP9); (try dsimp only at N9); (subst hr9); (try dsimp only); (try k_fold)))
local macro_rules | `(tactic| walk_at "call ref") => `(tactic| (k_here; (with_reducible show wpAny _ _ (call (Value.ref 42) _) _ _ _); k_dflt (refine' mut_use (mutC_of (heapreplace_H _ _ _ _)) ?k1 ?k2 ?k3 ?k4 ?k5 ?k6 ?kK ?kI ?kJ ?kP ?kd ?ku ?_; (case k1 => k_asm); (case k2 => k_asm); (case k3 => k_asm); (case k4 => k_asm); (case k5 => k_updF); (case k6 => k_asm); (case kK => first | exact rfl | assumption); (case kI => first | with_reducible assumption | assumption); (case kJ => exact .cons _ _ .nil); (case kP => exact kept_repl (by assumption) (by assumption)); (case kd => ktr_room); (case ku => ktr_units)); intro r9 h9 tk9 vs9 ns9 n9 F9 N9 hI9 hP9; (obtain ⟨hq9, hh9, t9, hr9⟩ := hP9); (have hp9 := hq9 _ rfl); (clear hq9); (try dsimp only at N9); (subst hr9); (try dsimp only); (try k_fold)))
local macro_rules | `(tactic| walk_at "call ref") => `(tactic| (k_here; (with_reducible show wpAny _ _ (call (Value.ref 21) _) _ _ _); k_dflt (refine' hb_use (high_bit_H _ _ _ _) ?k1 ?k2 ?k3 ?k4 ?k6 ?kK ?kd ?ku ?_; (case k1 => k_asm); (case k2 => k_asm); (case k3 => k_asm); (case k4 => k_asm); (case k6 => k_asm); (case kK => first | exact rfl | assumption); (case kd => ktr_room); (case ku => ktr_units)); intro h9 tk9 t9 F9 N9; (try dsimp only); (try k_fold)))
set_option maxRecDepth 100000 in
set_option maxHeartbeats 8000000 in
theorem kept_H (w : World) (mean : ExcName → Option Value) (mg mb : Str → Option Value) : MakeC w (hd.heap_39 w.params) hd.view_39 (looseW hd.view_39 []) mean mg mb 70 30 NumsPre (KeptPost w) := by
  intro dp un gd cn cs a ccd cl outer A₀ base h₀ L m rest s l vs ns n Q E B F X N T hk hI hpre hd hu hret
  obtain ⟨h1, h2⟩ := hpre
  k_with_none
  k_with "pyIter ref" => (k_of "number" => k_state (fun pre heap => heap.length = pre.length ∧ heap.Perm pre ∧ IsHeap heap) "heap")
  k_with "pyIter ref" => (k_of "turn" => k_state_given ["numbers"] (fun nums pre heap kept => heap.length + kept.length ≤ 7 ∧ KeptInv nums pre.length heap kept) "heap" "kept")
  k_with "state" => first
    | exact sk_push0
    | exact sk_push1 (by assumption) (by assumption) (by assumption) (by assumption)
    | exact sk_0 (by assumption) (by assumption) (by assumption) h1 h2
    | exact sk_skip (by assumption) (by assumption)
    | exact sk_rep (by assumption) (by assumption) (by assumption) (by assumption) (by assumption) (by assumption)
    | exact sk_zero (by assumption) (by assumption) (by assumption) (by assumption) (by assumption)
    | exact sk_put (by assumption) (by assumption) (by assumption) (by assumption) (by assumption) (by assumption)
  w_on
  w_strict (
    unfold PG
    revert X; k_fill; intro X
    refine wpAny_call ?_
    k_dflt ktr_enter
    k_steps
    all_goals first
      | exact absurd rfl (by assumption)
      | exact hret _ _ _ _ (by assumption) (kst_newsOf (by assumption) (List.forall_mem_cons.mpr ⟨by k_mem, List.forall_mem_cons.mpr ⟨by k_mem, fun p9 h9 => by simp only [List.mem_cons, h9, or_true]⟩⟩)) (And.right (And.right (by assumption))) (And.left (And.right (by assumption))) ⟨_, _, by assumption, by assumption, sk_done (by assumption)⟩)
end
end Mine
end
section
open PySem PySem.W PyProof.Rows PySem.Calls PySem.Spec
namespace Mine
theorem allLt_up {a b : Nat} (h : a ≤ b) : ∀ {r : List (Addr × Obj)}, AllLt a r → AllLt b r
  | [], _ => trivial
  | _ :: _, ⟨h1, h2⟩ => ⟨Nat.lt_of_lt_of_le h1 h, allLt_up h h2⟩
section
variable {prog : Program} {w : World} {A : Around} {E : Value → Shared → Prop} {s : Shared} {env : Env} {h₀ : Heap} {x : Str} {body : List Stmt} {Q : Flow → Shared → Prop}
/-- the turn's end of a loop whose names are cells -/
def CellEnd (h₀ : Heap) (L : Addr) (m : Str → Option Value) (I : Addr) (oI : Obj) (J : List (Addr × Obj) → Prop) (s₁ : Shared) (f : Flow) (s₂ : Shared) : Prop :=
  f = .next ∧ ∃ h' tk nx, s₂ = { s₁ with heap := h', toks := tk } ∧ Fr h₀ L h' m ∧ News h₀ L h' ((I, oI) :: nx) ∧ (∀ p ∈ nx, p.1 ≠ I) ∧ J nx
/-- a loop over a list of the ledger's whose target and whose stored names are cells: the frame's own names stand -/
theorem for_cells {px pos : Pos} {iter : Expr} {l : Addr} {vs : List Value} {ns : List Int} {nn : Nat} {m : Str → Option Value} {news : List (Addr × Obj)} (J : List Int → List (Addr × Obj) → Prop)
    (hh : A.handled = none) (F : Fr h₀ env.locals s.heap m) (N : News h₀ env.locals s.heap news) (hl : ∀ pre nx, J pre nx → (l, W.listOf vs.toArray nn) ∈ nx) (hi : IntsAre vs ns) (hj : J [] news)
    (hev : ∀ Q' : Value → Shared → Prop, Q' (.ref l) s → wpAny (model prog w) A (eval iter env) Q' E s)
    (turn : ∀ (pre post : List Int) n t nx h tk I oI, ns = pre ++ n :: post → J pre nx → (∀ p ∈ nx, p.1 ≠ I) → Fr h₀ env.locals h m → News h₀ env.locals h ((I, oI) :: nx) →
      wpAny (model prog w) A (storeName env x (.int n t)) (fun _ s₁ => wpAny (model prog w) A (execs body env) (CellEnd h₀ env.locals m I oI (J (pre ++ [n])) { s with heap := h, toks := tk }) E s₁) E { s with heap := h, toks := tk })
    (done : ∀ nx h tk, J ns nx → Fr h₀ env.locals h m → News h₀ env.locals h nx → Q .next { s with heap := h, toks := tk })
    (hs : ∀ x, foldedSetIterable iter env x = pure x := by intro _; rfl)
    (hE : PassesOwn (model prog w) A env E := by passes_own) :
    wpAny (model prog w) A (exec (.For (.Name x px) iter body [] pos) env) Q E s := by
  have hl0 := hl _ _ hj
  have hol : s.heap.get? l = some (W.listOf vs.toArray nn) := (N _ hl0).1
  have hls : s.heap.IsList l vs.toArray := ⟨_, hol, rfl, nn, rfl⟩
  have hne : l ≠ s.heap.objs.size := Nat.ne_of_lt (Heap.lt_size hol)
  refine wpAny_For (hev _ (wpAny_pyIter_list hls ?_)) hs
  have hW := Walks.list (prog := prog) (w := w) hh s.heap.objs.size l hne vs.toArray
  have hlen : vs.toArray.size = ns.length := by simp [hi.length]
  rw [hlen] at hW
  have hLI : env.locals ≠ s.heap.objs.size := Nat.ne_of_lt F.ns.lt
  refine codeAny_forLoop
    (fun k s' => ∃ h' tk nx i, s' = { s with heap := h', toks := tk } ∧ (h'.IsListIter s.heap.objs.size l i ∧ h'.IsList l vs.toArray) ∧ Fr h₀ env.locals h' m ∧ News h₀ env.locals h' nx ∧ (∀ p ∈ nx, p.1 ≠ s.heap.objs.size) ∧ J (ns.take i) nx ∧ i ≤ ns.length ∧ k = ns.length + 1 - i) ?_ (ns.length + 1)
    ⟨_, s.toks, news, 0, rfl, ⟨⟨_, Heap.get?_push_size _ rfl, rfl, rfl⟩, hls.at fun o e => Heap.get?_push_of_some _ e⟩, F.push _, (fun p hp => ⟨Heap.get?_push_of_some _ (N p hp).1, (N p hp).2⟩), (fun p hp => Nat.ne_of_lt (Heap.lt_size (N p hp).1)), by simpa using hj, Nat.zero_le _, rfl⟩
  rintro k s' ⟨h', tk, nx, i, rfl, hst', F', N', hnw', hJ, hi', rfl⟩
  have next : ∀ h₁ : Heap, (∀ b o, b ∉ [s.heap.objs.size] → h'.get? b = some o → h₁.get? b = some o) → Fr h₀ env.locals h₁ m ∧ News h₀ env.locals h₁ nx := fun h₁ hk₁ =>
    ⟨⟨F'.ns.at' fun o e => hk₁ _ o (fun q => hLI (List.mem_singleton.mp q)) e, fun b o e => hk₁ b o (fun q => by rw [List.mem_singleton.mp q, next_is_new F] at e; cases e) (F'.keep b o e), F'.above⟩, fun p hp => ⟨hk₁ _ _ (fun q => hnw' p hp (List.mem_singleton.mp q)) (N' p hp).1, (N' p hp).2⟩⟩
  by_cases hlt : i < ns.length
  · refine hW.item i _ _ _ hlt hst' fun v h₁ tk₁ hP hst₁ hk₁ => ?_
    obtain ⟨F₁, N₁⟩ := next h₁ hk₁
    obtain ⟨t, hx⟩ := hi.get i ns[i] (by simp [hlt])
    have hv : v = .int ns[i] t := by
      have hP' : vs[i]? = some v := by simpa using hP
      rw [hx] at hP'; exact (Option.some.inj hP').symm
    subst hv
    have hs' : ns.take (i + 1) = ns.take i ++ [ns[i]] := by rw [List.take_add_one, List.getElem?_eq_getElem hlt]; rfl
    have e : ns = ns.take i ++ ns[i] :: ns.drop (i + 1) := by
      have ht := List.take_append_drop (i + 1) ns
      rw [hs', List.append_assoc] at ht
      exact ht.symm
    obtain ⟨oI, hoI, hr⟩ := hst₁.1
    have NI : News h₀ env.locals h₁ ((s.heap.objs.size, oI) :: nx) := List.forall_mem_cons.mpr ⟨⟨hoI, fun q => hLI q.symm, next_is_new F⟩, N₁⟩
    refine wpAny_assign_Name (wpAny_passesOwn hE (wpAny_mono (turn _ _ ns[i] t nx h₁ tk₁ _ oI e hJ hnw' F₁ NI) (fun _ s₂ h₂ => wpAny_passesOwn hE (wpAny_mono h₂ (fun f s₃ h₃ => ?_) fun _ _ e => e)) fun _ _ e => e))
    obtain ⟨rfl, h₃', tk₃, nx', rfl, F₃, N₃, hn₃, hJ₃⟩ := h₃
    refine ⟨ns.length + 1 - (i + 1), by omega, h₃', tk₃, nx', i + 1, rfl, ⟨⟨oI, (N₃ _ (.head _)).1, hr⟩, ?_⟩, F₃, (fun p hp => N₃ p (.tail _ hp)), hn₃, by rw [hs']; exact hJ₃, hlt, rfl⟩
    exact ⟨_, (N₃ _ (.tail _ (hl _ _ hJ₃))).1, rfl, nn, rfl⟩
  · have hin : i = ns.length := by omega
    subst hin
    refine hW.done _ _ _ hst' fun h₁ tk₁ hk₁ => wpAny_execs_nil ?_
    obtain ⟨F₁, N₁⟩ := next h₁ hk₁
    rw [List.take_length] at hJ
    exact done nx h₁ tk₁ hJ F₁ N₁
end
end Mine
end
section
open PySem PySem.W PyProof.Rows PySem.Calls PySem.Spec PyProof.Rows.LCg
namespace Mine
section
variable {prog : Program} {w : World} {A : Around} {E : Value → Shared → Prop} {s : Shared} {env : Env} {h₀ : Heap} {L : Addr} {m : Str → Option Value}
/-- the end of a test in a comprehension's turn -/
def TestEnd (h₀ : Heap) (L : Addr) (m : Str → Option Value) (news : List (Addr × Obj)) (q : Bool) (s₁ : Shared) (b : Bool) (s₂ : Shared) : Prop :=
  b = q ∧ ∃ h' tk, s₂ = { s₁ with heap := h', toks := tk } ∧ Fr h₀ L h' m ∧ News h₀ L h' news
/-- a range handed over -/
def RangeGot (h₀ : Heap) (L : Addr) (m : Str → Option Value) (news : List (Addr × Obj)) (a b : Int) (s : Shared) (xv : Value) (s₁ : Shared) : Prop :=
  ∃ r t u v h tk, xv = .ref r ∧ s₁ = { s with heap := h, toks := tk } ∧ Fr h₀ L h m ∧ News h₀ L h news ∧ IsRange h r a b (-1) t u v
/-- the block's own frame, one of its names a cell -/
theorem new_cell {scope : Scope} {z0 x y : Str} {cl : List (Str × Addr)} {Q : Env → Shared → Prop} (hn : scope.names = [(z0, .local), (x, .cell), (y, .free)])
    (h : Q { scope := scope, locals := s.heap.objs.size, globals := env.globals, cells := (x, (s.heap.push { cls := .type "dict", data := .dict #[] }).objs.size) :: cl, qual := env.qual, func := none, code := env.code, frame := env.frame, builtins := env.builtins }
      { s with heap := (s.heap.push { cls := .type "dict", data := .dict #[] }).push { cls := .type "cell", data := .cell none } }) :
    wpAny (model prog w) A (newFunctionEnv scope env.globals cl [] env.qual none .none (some env)) Q E s := by
  unfold newFunctionEnv
  simp only [Option.isSome_some, if_true, hn]
  refine wpAny_bind (wpAny_alloc ?_)
  refine wpAny_bind ?_
  simp only [List.forIn_cons, List.forIn_nil, show (NameKind.local == NameKind.cell) = false from rfl, show (NameKind.cell == NameKind.cell) = true from rfl, show (NameKind.free == NameKind.cell) = false from rfl, if_true, if_false, Bool.false_eq_true]
  refine wpAny_bind (wpAny_pure ?_)
  dsimp only
  refine wpAny_bind (wpAny_bind (wpAny_alloc (wpAny_pure ?_)))
  dsimp only
  refine wpAny_bind (wpAny_pure ?_)
  dsimp only
  refine wpAny_pure ?_
  refine wpAny_bind (wpAny_pure ?_)
  exact wpAny_pure h

/-- a comprehension over a downward range, its target a cell, its element the target, one test -/
theorem comp_cell {ct iter : Expr} {x z0 y : Str} {px pe pos : Pos} {scope : Scope} {cl : List (Str × Addr)} {a b : Int} {n : Nat} {news : List (Addr × Obj)} {Q : Value → Shared → Prop} (p : Int → Bool) (_ : Fr h₀ L s.heap m) (_ : News h₀ L s.heap news)
    (hh : A.handled = none) (hnm : scope.names = [(z0, .local), (x, .cell), (y, .free)]) (hclos : closureFor scope env = pure cl) (hkind : scope.kind = .function)
    (hnames : ∀ y ∈ scope.names, y.2 = .local → scope.names.lookup y.1 = some .local) (hx : (relabel scope env).names.lookup x = some .cell) (hdb : (x == ("__debug__" : Str)) = false)
    (hsmall : Builtin.Range.small a b (-1) = true) (hn : Builtin.Range.rangeSize a b (-1) = (n : Int)) (hsz : n ≤ sizeLine)
    (hit : wpAny (model prog w) A (eval iter env) (RangeGot h₀ L m news a b s) E s)
    (turn : ∀ k t I oI C oC c oc D ys h tk (E' : Value → Shared → Prop), k ∈ downKs a n → oc.data = .cell (some (.int k t)) → Fr h₀ L h m → News h₀ L h ((c, oc) :: (C, oC) :: (D, lst ys) :: (I, oI) :: news) → AllLt I news → @LT.lt Nat _ I D → @LT.lt Nat _ D C → @LT.lt Nat _ C c →
      wpAny (model prog w) A (isTrue ct (compEnvC scope ((x, c) :: cl) C env) (eval ct (compEnvC scope ((x, c) :: cl) C env))) (TestEnd h₀ L m ((c, oc) :: (C, oC) :: (D, lst ys) :: (I, oI) :: news) (p k) { s with heap := h, toks := tk }) E' { s with heap := h, toks := tk })
    (done : ∀ D h tk ys, Fr h₀ L h m → News h₀ L h ((D, lst ys) :: news) → AllLt D news → IntsAre ys ((downKs a n).filter p) → Q (.ref D) { s with heap := h, toks := tk })
    (hs : ∀ x, foldedSetIterable iter env x = pure x := by intro _; rfl) :
    wpAny (model prog w) A (eval (.ListComp (.Name x pe) [⟨.Name x px, iter, [ct], 0⟩] scope pos) env) Q E s := by
  rw [eval_ListComp]
  refine wpAny_comprehension_free (use := none) rfl hs hclos hkind hnames (wpAny_mono hit (fun xv s₁ h₁ => ?_) fun _ _ e => e)
  obtain ⟨r, t₀, u₀, v₀, h, tk₀, rfl, rfl, F, N, hr⟩ := h₁
  refine wpAny_pyIter_range hr hsmall ?_
  dsimp only
  generalize hoI : ({ cls := .type "range_iterator", data := .fields #[rawInt a, rawInt (Builtin.Range.rangeSize a b (-1)), rawInt (-1)] } : Obj) = oI0
  have hfI : oI0.isFreed = false := by rw [← hoI]; rfl
  have N1 := N.push F oI0 hfI
  have F1 := F.push oI0
  have hI : ∀ q ∈ news, q.1 < h.objs.size := fun q hq => Heap.lt_size (N q hq).1
  have hIL : h.objs.size ≠ L := Nat.ne_of_gt F.ns.lt
  have hI₀ := next_is_new F
  have hstI : IsRangeIter (h.push oI0) h.objs.size (a + ((0 : Nat) : Int) * (-1)) ((n : Int) - ((0 : Nat) : Int)) (-1) := by
    show (h.push oI0).get? h.objs.size = _
    rw [Heap.get?_push_size _ hfI, ← hoI, hn]
    simp
  generalize hII : h.objs.size = I at *
  generalize hH1 : h.push oI0 = H1 at *
  have hs1 : H1.objs.size = I + 1 := by rw [← hH1, Heap.size_push, hII]
  refine wpAny_newObj_type ?_
  dsimp only
  have N2 := N1.push F1 (lst [])
  have F2 := F1.push (lst [])
  have hD₀ := next_is_new F1
  have hDL : H1.objs.size ≠ L := Nat.ne_of_gt F1.ns.lt
  show wpAny _ _ _ _ _ { s with heap := H1.push (lst []), toks := tk₀ }
  generalize hDD : H1.objs.size = D at *
  generalize hH2 : H1.push (lst []) = H2 at *
  have hs2 : H2.objs.size = D + 1 := by rw [← hH2, Heap.size_push, hDD]
  refine new_cell hnm ?_
  dsimp only
  have N3 := N2.push F2 { cls := .type "dict", data := .dict #[] }
  have F3 := F2.push { cls := .type "dict", data := .dict #[] }
  have hC₀ := next_is_new F2
  have hCL : H2.objs.size ≠ L := Nat.ne_of_gt F2.ns.lt
  have hCn : NsObj { cls := .type "dict", data := .dict #[] } (fun _ => none) := ⟨#[], 0, rfl, fun _ he => by simp at he, fun _ => rfl⟩
  generalize hoC : ({ cls := .type "dict", data := .dict #[] } : Obj) = oC at *
  generalize hCC : H2.objs.size = C at *
  generalize hH3 : H2.push oC = H3 at *
  have hs3 : H3.objs.size = C + 1 := by rw [← hH3, Heap.size_push, hCC]
  have N4 := N3.push F3 { cls := .type "cell", data := .cell none }
  have F4 := F3.push { cls := .type "cell", data := .cell none }
  have hc₀ := next_is_new F3
  have hcL : H3.objs.size ≠ L := Nat.ne_of_gt F3.ns.lt
  have hst4 : IsRangeIter (H3.push { cls := .type "cell", data := .cell none }) I (a + ((0 : Nat) : Int) * (-1)) ((n : Int) - ((0 : Nat) : Int)) (-1) := by
    refine Heap.get?_push_of_some _ ?_
    rw [← hH3]
    refine Heap.get?_push_of_some _ ?_
    rw [← hH2]
    exact Heap.get?_push_of_some _ hstI
  generalize hcc : H3.objs.size = c at *
  generalize hH4 : H3.push { cls := .type "cell", data := .cell none } = H4 at *
  have hID : @LT.lt Nat _ I D := by omega
  have hDC : @LT.lt Nat _ D C := by omega
  have hCc : @LT.lt Nat _ C c := by omega
  have hAll : AllLt I news := allLt_of hI
  have hW := Walks.range (prog := prog) (w := w) hh I a (-1) n
  have loop : ∀ s₃ : Shared, s₃ = { s with heap := H4, toks := tk₀ } →
      codeAny (model prog w) A (.compLoop (.ListComp (.Name x pe) [⟨.Name x px, iter, [ct], 0⟩] scope pos) 0 (.ref I) (.ref D) (compEnvC scope ((x, c) :: cl) C env)) (compPost (model prog w) A E none Q (.ref D) C) s₃ := by
    rintro s₃ rfl
    refine codeAny_compLoop_tests
      (fun k s' => ∃ h' tk i ys oI oc v, s' = { s with heap := h', toks := tk } ∧ i ≤ n ∧ k = n + 1 - i ∧ ys.length ≤ i ∧ IsRangeIter h' I (a + (i : Nat) * (-1)) ((n : Int) - (i : Nat)) (-1) ∧ Fr h₀ L h' m ∧ News h₀ L h' ((c, oc) :: (C, oC) :: (D, lst ys) :: (I, oI) :: news) ∧
        oc.data = .cell v ∧ IntsAre ys (((downKs a n).take i).filter p)) ?_ (n + 1)
      ⟨H4, tk₀, 0, [], oI0, _, none, rfl, Nat.zero_le _, rfl, Nat.le_refl _, hst4, F4, N4, rfl, .nil⟩
    rintro k s' ⟨h', tk, i, ys, oI, oc, v, rfl, hi, rfl, hyl, hst', F', N', hoc, hIy⟩
    have step : ∀ h₂ : Heap, (∀ b o, b ∉ [I] → h'.get? b = some o → h₂.get? b = some o) → Fr h₀ L h₂ m ∧ News h₀ L h₂ ((c, oc) :: (C, oC) :: (D, lst ys) :: news) := fun h₂ hk₂ =>
      ⟨fr_but F' hk₂ (Ne.symm hIL) hI₀, fun q hq => by
        have hq' : q ∈ (c, oc) :: (C, oC) :: (D, lst ys) :: (I, oI) :: news := by
          simp only [List.mem_cons] at hq ⊢
          rcases hq with h | h | h | h
          · exact .inl h
          · exact .inr (.inl h)
          · exact .inr (.inr (.inl h))
          · exact .inr (.inr (.inr (.inr h)))
        refine ⟨hk₂ _ _ ?_ (N' q hq').1, (N' q hq').2⟩
        intro hb
        have hb : q.1 = I := List.mem_singleton.mp hb
        simp only [List.mem_cons] at hq
        rcases hq with h | h | h | h
        · subst h; exact absurd hb (neN (by show c ≠ I; omega))
        · subst h; exact absurd hb (neN (by show C ≠ I; omega))
        · subst h; exact absurd hb (neN (by show D ≠ I; omega))
        · exact absurd hb (Nat.ne_of_lt (hI q h))⟩
    by_cases hlt : i < n
    · refine hW.item i _ _ _ hlt hst' fun v₂ h₂ tk₂ hPv hst₂ hk₂ => ?_
      obtain ⟨t, rfl⟩ := hPv
      obtain ⟨F₂, N₂⟩ := step h₂ hk₂
      have ek : a + (i : Int) * (-1) = a - (i : Int) := by omega
      have hkm : (downKs a n)[i]? = some (a - (i : Int)) := by simp [downKs, hlt]
      rw [ek]
      refine wpAny_assign_Name (wpAny_storeName_cell (c := c) (by exact hkind) hx (by simp [compEnvC]) ⟨oc, (N₂ _ (.head _)).1, hoc⟩ fun h₃ hc₃ hs₃ => ?_)
      obtain ⟨oc', hoc', hdc'⟩ := hc₃
      refine wpAny_tests_one ?_
      have F₃ : Fr h₀ L h₃ m := F₂.change hs₃ hcL hc₀
      have N₃ : News h₀ L h₃ ((c, oc') :: (C, oC) :: (D, lst ys) :: (I, { cls := .type "range_iterator", data := .fields #[rawInt (a + ((i + 1 : Nat) : Int) * (-1)), rawInt ((n : Int) - ((i + 1 : Nat) : Int)), rawInt (-1)] }) :: news) := fun q hq => by
        rcases List.mem_cons.mp hq with rfl | hq
        · exact ⟨hoc', hcL, hc₀⟩
        · rcases List.mem_cons.mp hq with rfl | hq
          · have z := N₂ (C, oC) (.tail _ (.head _))
            exact ⟨hs₃.extBut _ _ (neN (by show C ≠ c; omega)) z.1, z.2⟩
          · rcases List.mem_cons.mp hq with rfl | hq
            · have z := N₂ (D, lst ys) (.tail _ (.tail _ (.head _)))
              exact ⟨hs₃.extBut _ _ (neN (by show D ≠ c; omega)) z.1, z.2⟩
            · rcases List.mem_cons.mp hq with rfl | hq
              · exact ⟨hs₃.extBut _ _ (neN (by show I ≠ c; omega)) hst₂, hIL, hI₀⟩
              · have z := N₂ q (.tail _ (.tail _ (.tail _ hq)))
                have := hI q hq
                exact ⟨hs₃.extBut _ _ (Nat.ne_of_lt (by show @LT.lt Nat _ q.1 c; have : @LT.lt Nat _ q.1 I := this; omega)) z.1, z.2⟩
      refine wpAny_mono (turn (a - (i : Int)) t I _ C oC c oc' D ys h₃ tk₂ _ (List.mem_of_getElem? hkm) hdc' F₃ N₃ hAll hID hDC hCc) (fun ok s₄ h₄ => ?_) fun _ _ e => e
      obtain ⟨hok, h₄, tk₄, rfl, F₄, N₄⟩ := h₄
      have htk : ((downKs a n).take (i + 1)).filter p = ((downKs a n).take i).filter p ++ (if p (a - (i : Int)) = true then [a - (i : Int)] else []) := by
        rw [List.take_add_one, hkm]
        simp only [Option.toList_some, List.filter_append, List.filter_cons, List.filter_nil]
      have hst₄ : IsRangeIter h₄ I (a + ((i + 1 : Nat) : Int) * (-1)) ((n : Int) - ((i + 1 : Nat) : Int)) (-1) := (N₄ _ (.tail _ (.tail _ (.tail _ (.head _))))).1
      cases hpk : p (a - (i : Int)) with
      | true =>
        rw [hpk] at hok
        subst hok
        simp only [if_true]
        refine wpAny_Name (wpAny_loadName_cell (c := c) (by exact hkind) hx (by simp [compEnvC]) ⟨oc', (N₄ _ (.head _)).1, hdc'⟩ ?_) hdb
        have zD := (N₄ _ (.tail _ (.tail _ (.head _)))).1
        refine append_at (hsz := by show ys.toArray.size ≤ sizeLine; rw [List.size_toArray]; omega) zD fun h₅ hs₅ hD₅ => ?_
        refine ⟨n + 1 - (i + 1), by omega, h₅, tk₄, i + 1, ys ++ [.int (a - (i : Int)) t], { cls := .type "range_iterator", data := .fields #[rawInt (a + ((i + 1 : Nat) : Int) * (-1)), rawInt ((n : Int) - ((i + 1 : Nat) : Int)), rawInt (-1)] }, oc', _, rfl, hlt, rfl, by rw [List.length_append, List.length_singleton]; omega, hs₅.extBut _ _ (neN (by show I ≠ D; omega)) hst₄, F₄.change hs₅ hDL hD₀, ?_, hdc', ?_⟩
        · intro q hq
          rcases List.mem_cons.mp hq with rfl | hq
          · have z := N₄ (c, oc') (.head _)
            exact ⟨hs₅.extBut _ _ (neN (by show c ≠ D; omega)) z.1, z.2⟩
          · rcases List.mem_cons.mp hq with rfl | hq
            · have z := N₄ (C, oC) (.tail _ (.head _))
              exact ⟨hs₅.extBut _ _ (neN (by show C ≠ D; omega)) z.1, z.2⟩
            · rcases List.mem_cons.mp hq with rfl | hq
              · exact ⟨hD₅.trans (congrArg some (lst_snoc ys _)), hDL, hD₀⟩
              · have z := N₄ q (.tail _ (.tail _ (.tail _ hq)))
                refine ⟨hs₅.extBut _ _ ?_ z.1, z.2⟩
                rcases List.mem_cons.mp hq with rfl | hq
                · exact neN (by show I ≠ D; omega)
                · have := hI q hq
                  exact Nat.ne_of_lt (by show @LT.lt Nat _ q.1 D; have : @LT.lt Nat _ q.1 I := this; omega)
        · rw [htk, hpk, if_pos rfl]
          exact IntsAre.append hIy (.cons _ _ .nil)
      | false =>
        rw [hpk] at hok
        subst hok
        simp only [Bool.false_eq_true, if_false]
        refine ⟨n + 1 - (i + 1), by omega, h₄, tk₄, i + 1, ys, { cls := .type "range_iterator", data := .fields #[rawInt (a + ((i + 1 : Nat) : Int) * (-1)), rawInt ((n : Int) - ((i + 1 : Nat) : Int)), rawInt (-1)] }, oc', _, rfl, hlt, rfl, by omega, hst₄, F₄, N₄, hdc', ?_⟩
        rw [htk, hpk, if_neg Bool.false_ne_true, List.append_nil]
        exact hIy
    · have hin : i = n := by omega
      subst hin
      refine hW.done _ _ _ hst' fun h₂ tk₂ hk₂ => ?_
      obtain ⟨F₂, N₂⟩ := step h₂ hk₂
      refine ⟨_, hCn.ns (N₂ _ (.tail _ (.head _))).1, fun h₅ hs₅ => ?_⟩
      have hlen : ((downKs a i).take i) = downKs a i := List.take_of_length_le (by rw [downKs_length]; exact Nat.le_refl _)
      rw [hlen] at hIy
      refine done D h₅ tk₂ ys (F₂.change hs₅ hCL hC₀) (fun q hq => ?_) (allLt_up (by omega) hAll) hIy
      have z := N₂ q (.tail _ (.tail _ hq))
      refine ⟨hs₅.extBut _ _ ?_ z.1, z.2⟩
      rcases List.mem_cons.mp hq with rfl | hq
      · exact neN (by show D ≠ C; omega)
      · have := hI q hq
        exact Nat.ne_of_lt (by show @LT.lt Nat _ q.1 C; have : @LT.lt Nat _ q.1 I := this; omega)
  exact codeAny_compStart_list (loop _ rfl) (hW.self 0 _ _ _ hst4 (loop _ rfl))
end
end Mine
end
section
open PySem PySem.W PyProof.Rows PySem.Calls PySem.Spec PyProof.Rows.LCg
namespace Mine
section
variable {prog : Program} {w : World} {A : Around} {E : Value → Shared → Prop} {s : Shared} {env : Env} {h₀ : Heap} {L : Addr} {m : Str → Option Value}
theorem foldl_filter (p : Int → Bool) : ∀ (ks l : List Int), ks.foldl (fun l k => if p k = true then l ++ [k] else l) l = l ++ ks.filter p
  | [], l => by simp
  | k :: ks, l => by
    rw [List.foldl_cons, foldl_filter p ks, List.filter_cons]
    cases p k <;> simp
/-- a filter of a list of ints: its turns -/
theorem filt_rest {ct : Expr} {x : Str} {pe : Pos} {scope : Scope} {cl : List (Str × Addr)} {S : List (Addr × Obj) → Prop} {P : Nat → Value → Prop} {Fin : List Value → List (Addr × Obj) → Prop} {news : List (Addr × Obj)} {n : Nat} {ks : List Int} (p : Int → Bool)
    (hks : ks.length = n) (hP : ∀ i v, i < n → P i v → ∃ k t, ks[i]? = some k ∧ v = .int k t) (hS : S news) (hkind : scope.kind = .function) (hx : scope.names.lookup x = some .local) (hdb : (x == ("__debug__" : Str)) = false)
    (turn : ∀ k t I oI C oC D m₂ ys h tk (E' : Value → Shared → Prop), k ∈ ks → NsObj oC m₂ → m₂ x = some (.int k t) → Fr h₀ L h m → News h₀ L h ((I, oI) :: (C, oC) :: (D, lst ys) :: news) → Off3 I C D news → ((@Ne Nat I C) ∧ (@Ne Nat I D) ∧ (@Ne Nat C D)) →
      wpAny (model prog w) A (isTrue ct (compEnvC scope cl C env) (eval ct (compEnvC scope cl C env))) (TestEnd h₀ L m ((I, oI) :: (C, oC) :: (D, lst ys) :: news) (p k) { s with heap := h, toks := tk }) E' { s with heap := h, toks := tk })
    (fin : ∀ ys, IntsAre ys (ks.filter p) → Fin ys news) : LCt.CompRestT prog w A h₀ L m env ct (.Name x pe) x scope cl s S P Fin n 0 [] news := by
  refine kci_rest (ks := ks) (fun l k => if p k = true then l ++ [k] else l) hks hP (fun k t I oI C oC D m₂ ys l h tk E' hk hy hC hx' F N off ne _ => ?_) ?_ ?_
  · refine wpAny_mono (turn k t I oI C oC D m₂ ys h tk E' hk hC hx' F N off ne) (fun b s' hb => ?_) fun _ _ e => e
    obtain ⟨rfl, h', tk', rfl, F', N'⟩ := hb
    cases hp : p k with
    | true =>
      simp only [if_true]
      refine wpAny_Name (wpAny_loadName_local (by exact hkind) (lookup_relabel_local hx) (hC.ns (N' _ (.tail _ (.head _))).1) hx' ?_) hdb
      exact ⟨h', tk', news, rfl, F', N', off, hS, rfl, k, t, rfl, rfl⟩
    | false =>
      simp only [Bool.false_eq_true, if_false]
      exact ⟨h', tk', news, rfl, F', N', off, hS, rfl, rfl⟩
  · unfold KPfDone
    intro ys hys _
    rw [foldl_filter] at hys
    exact fin ys hys
  · unfold KPfGrows
    intro l k
    dsimp only
    split <;> simp
/-- a filter of a list of ints in the ledger -/
theorem filt_ledger {ct : Expr} {x : Str} {pe : Pos} {scope : Scope} {cl : List (Str × Addr)} {Fin : Shared → List Value → List (Addr × Obj) → Prop} {news : List (Addr × Obj)} {ax : Addr} {us : List Value} {kk : Nat} {ks : List Int} {s₁ : Shared} (p : Int → Bool)
    (hh : A.handled = none) (F : Fr h₀ L s₁.heap m) (N : News h₀ L s₁.heap news) (hm : (ax, W.listOf us.toArray kk) ∈ news) (hi : IntsAre us ks) (hsz : ks.length ≤ 1000) (hkind : scope.kind = .function) (hx : scope.names.lookup x = some .local) (hdb : (x == ("__debug__" : Str)) = false)
    (turn : ∀ (g : Heap) k t I oI C oC D m₂ ys h tk (E' : Value → Shared → Prop), k ∈ ks → NsObj oC m₂ → m₂ x = some (.int k t) → Fr h₀ L h m → News h₀ L h ((I, oI) :: (C, oC) :: (D, lst ys) :: news) → Off3 I C D news → ((@Ne Nat I C) ∧ (@Ne Nat I D) ∧ (@Ne Nat C D)) →
      wpAny (model prog w) A (isTrue ct (compEnvC scope cl C env) (eval ct (compEnvC scope cl C env))) (TestEnd h₀ L m ((I, oI) :: (C, oC) :: (D, lst ys) :: news) (p k) { s₁ with heap := h, toks := tk }) E' { s₁ with heap := h, toks := tk })
    (fin : ∀ g ys, IntsAre ys (ks.filter p) → Fin { s₁ with heap := g } ys news) : LCt.CompSrcT prog w A h₀ L m env ct (.Name x pe) x scope cl Fin (.ref ax) s₁ := by
  refine LCt.CompSrcT.ledger hh F N hm (by rw [List.size_toArray, hi.length, sizeLine_eq]; omega) fun g => ?_
  refine filt_rest (s := { s₁ with heap := g }) (ks := ks) p (by rw [List.size_toArray]; exact hi.length.symm) (fun i v _ hv => ?_) (.inr ⟨_, hm, rfl, _, rfl⟩) hkind hx hdb (fun k t I oI C oC D m₂ ys h tk E' => turn g k t I oI C oC D m₂ ys h tk E') (fin g)
  obtain ⟨k, t, e, hk⟩ := IntsAre.at hi i v (by simpa using hv)
  exact ⟨k, t, hk, e⟩
end
end Mine
end
section
open PySem PySem.W PyProof.Rows
namespace Mine
def powTest (k o : Int) : Bool := decide (o.fdiv (2 ^ k.toNat) = 1)
def DuePost (ns : List Int) (o : Obj) : Prop := ∃ ys ks, o = LCg.lst ys ∧ PlInv ns ks ∧ IntsAre ys ((downKs 7 8).filter fun k => !decide (ks.filter (powTest k) = []))
def PlJ (cN cS l : Addr) (lo : Obj) (rest : List (Addr × Obj)) (pre : List Int) (nx : List (Addr × Obj)) : Prop :=
  ∃ D us ks n' oS oN vN, nx = (D, W.listOf (List.toArray us) n') :: (cN, oN) :: (cS, oS) :: (l, lo) :: rest ∧ oS.data = .cell (some (.ref D)) ∧ oN.data = .cell vN ∧ IntsAre us ks ∧ PlInv pre ks ∧ @LT.lt Nat _ cN D ∧ AllLt D rest
theorem cell_end {h₀ h' : Heap} {L I D D₁ D₂ cN cS l : Addr} {m : Str → Option Value} {oI oN oS lo o1 o2 : Obj} {ws : List Value} {n₂ : Nat} {rest : List (Addr × Obj)} {v : Option Value} {ks pre : List Int} {s₁ : Shared} {tk : Nat}
    (F : Fr h₀ L h' m) (N : News h₀ L h' ((D, W.listOf ws.toArray n₂) :: (D₁, o1) :: (I, oI) :: (D₂, o2) :: (cN, oN) :: (cS, oS) :: (l, lo) :: rest)) (hS : oS.data = .cell (some (.ref D))) (hN : oN.data = .cell v) (hI : IntsAre ws ks) (hP : PlInv pre ks)
    (l1 : D₁ < D ∧ I < D ∧ D₂ < D ∧ cN < D ∧ cS < D ∧ l < D ∧ AllLt D rest) (i2 : cN ≠ I) (i3 : cS ≠ I) (i4 : l ≠ I) (i5 : ∀ p ∈ rest, p.1 ≠ I) : CellEnd h₀ L m I oI (PlJ cN cS l lo rest pre) s₁ .next { s₁ with heap := h', toks := tk } := by
  refine ⟨rfl, h', tk, _, rfl, F, fun q hq => N q ?_, fun q hq => ?_, ⟨D, ws, ks, n₂, oS, oN, v, rfl, hS, hN, hI, hP, l1.2.2.2.1, l1.2.2.2.2.2.2⟩⟩
  · simp only [List.mem_cons] at hq ⊢
    rcases hq with h | h | h | h | h | h
    · exact .inr (.inr (.inl h))
    · exact .inl h
    · exact .inr (.inr (.inr (.inr (.inl h))))
    · exact .inr (.inr (.inr (.inr (.inr (.inl h)))))
    · exact .inr (.inr (.inr (.inr (.inr (.inr (.inl h))))))
    · exact .inr (.inr (.inr (.inr (.inr (.inr (.inr h))))))
  · simp only [List.mem_cons] at hq
    rcases hq with h | h | h | h | h
    · subst h; exact Nat.ne_of_gt l1.2.1
    · subst h; exact i2
    · subst h; exact i3
    · subst h; exact i4
    · exact i5 q h
section
local macro_rules | `(tactic| units_room) => `(tactic| ktr_units)
local macro_rules | `(tactic| walk_at "eval ListComp") => `(tactic| (k_here; lct_look; k_dflt (refine LCt.ListComp_T (F₀ := by k_asm) (by with_unfolding_all rfl) (by decide) (by rfl) (by decide) (by rfl) ?_)))
local macro_rules | `(tactic| walk_at "CompSrcT") => `(tactic| (k_here; k_dflt (refine filt_ledger (powTest ‹Int›) (by rfl) (by k_asm) (by k_asm) (by k_mem) (by assumption) (by omega) (by rfl) (by rfl) (by decide) (fun g' k' t' I' oI' C' oC' D' m' ys' h' tk' E' hk' hC' hx' F' N' off' ne' => ?_) (fun g' ys' hI' => ?_)); (all_goals (try (simp only [LCg.Off3, and_true] at off')))))
set_option maxRecDepth 100000 in
set_option maxHeartbeats 8000000 in
theorem places_H (w : World) (mean : ExcName → Option Value) (mg mb : Str → Option Value) : MakeC w (hd.heap_39 w.params) hd.view_39 (looseW hd.view_39 []) mean mg mb 75 30 NumsPre DuePost := by
  intro dp un gd cn cs a ccd cl outer A₀ base h₀ L m rest s l vs ns n Q E B F X N T hk hI hpre hd hu hret
  obtain ⟨h1, h2⟩ := hpre
  k_with_none
  w_on
  w_strict (
    unfold PG
    revert X; k_fill; intro X
    refine wpAny_call ?_
    k_dflt (refine' code_defC ?k1 ?k2 ?k3 ?k4 ?k5 ?kA ?kF ?kK ?k6 ?k7 ?k8 ?k9 ?kB ?kD ?_ ?c2 ?c3 ?c4; (case kA => exact rfl); (case kF => exact rfl); (case kK => assumption); (case k1 => k_asm); (case k2 => k_asm); (case k3 => k_asm); (case k4 => k_asm); (case k5 => k_asm); (case k6 => k_is); (case k7 => k_is); (case k8 => ktr_room); (case k9 => exact BindsTo.of_eq rfl); (case kB => exact rfl); (case kD => decide +kernel); (case c2 => exact rfl); (case c3 => exact rfl); (case c4 => exact rfl); k_whole)
    intro g' L' h' tk' cells' FG' F' N' Y' B' X' T' l1
    k_lt l1
    have l2 : AllLt (L' + 1) rest := allLt_up (Nat.le_succ _) l1.2
    have l3 : AllLt (L' + 1 + 1) rest := allLt_up (Nat.le_succ _) l2
    k_cells Y'
    simp only [List.cons_append, List.nil_append] at N'
    dsimp only
    (try k_fold)
    k_steps
    (rename Fr _ _ _ _ => lF)
    (rename News _ _ _ _ => lN)
    (refine for_cells (l := l) (nn := n) (PlJ (L' + 1 + 1) (L' + 1) l (W.listOf vs.toArray n) rest) (by rfl) lF lN ?p1 hI ?p2 ?p3 ?p4 ?p5)
    (case p1 => (rintro pre nx ⟨D, us, ks, n', oS, oN, vN, rfl, _⟩; exact .tail _ (.tail _ (.tail _ (.head _)))))
    (case p2 => exact ⟨_, _, _, _, _, _, _, rfl, by assumption, by assumption, .cons _ _ .nil, pl_start, by omega, by tbn_find⟩)
    (case p3 => (intro Q' hQ'; k_dflt (exact nameX_L lF rfl hQ')))
    all_goals (try clear lF lN)
    (case p4 =>
      rintro pre post n0 t0 nx h tk I oI he ⟨D, us, ks, n', oS, oN, vN, rfl, hS, hN, hU, hP, hD, hr⟩ hne F9 N9
      have hlen := pl_len hP he h2
      have hlu := hU.length
      have hnb := h1 n0 (by rw [he]; simp)
      have i1 := neN (hne _ (.head _))
      have i2 := neN (hne _ (.tail _ (.head _)))
      have i3 := neN (hne _ (.tail _ (.tail _ (.head _))))
      have i4 := neN (hne _ (.tail _ (.tail _ (.tail _ (.head _)))))
      dsimp only at i1 i2 i3 i4
      have i5 : ∀ p ∈ rest, p.1 ≠ I := fun p hp => hne p (.tail _ (.tail _ (.tail _ (.tail _ hp))))
      try k_fold
      k_steps
      all_goals exact cell_end (by assumption) (by assumption) (by assumption) (by assumption) (by assumption) (pl_turn hP hnb) (by assumption) i2 i3 i4 i5)
    (case p5 =>
      rintro nx h tk ⟨D, us, ks, n', oS, oN, vN, rfl, hS, hN, hU, hP, hD, hr⟩ F9 N9
      have hlen := pl_len' hP h2
      have hlu := hU.length
      try k_fold
      k_steps
      refine comp_cell (h₀ := g') (L := L') (a := 7) (b := -1) (n := 8) (fun k => !decide (ks.filter (powTest k) = [])) F9 N9 (by rfl) (by rfl) (by with_unfolding_all rfl) (by rfl) (by decide) (by rfl) (by decide) (by decide) (by decide) (by decide) ?q1 ?q2 ?q3
      (case q1 => (try k_fold); k_steps; all_goals exact ⟨_, _, _, _, _, _, rfl, rfl, by assumption, by assumption, by assumption⟩)
      (case q2 => (intro k t I oI C oC c oc D9 ys h9 tk9 E' hk9 hc9 F9' N9' l9 l10 l11 l12; (have hkb := mem_downKs hk9); (try k_fold); k_steps; all_goals (first | exact ⟨rfl, _, _, rfl, by assumption, kst_newsOf (by assumption) (by kst_inAny)⟩)))
      (case q3 => (intro D9 h9 tk9 ys F9' N9' l9 hI9; (try k_fold); (simp only [AllLt] at l9); k_steps; all_goals (first | exact hret _ _ _ _ (by assumption) (kst_newsOf (by assumption) (by kst_inAny)) (by tbn_find) (by (refine ltN ?_; omega)) ⟨_, _, rfl, hP, hI9⟩)))))
end
end Mine
end
section
open PySem PySem.W PyProof.Rows
namespace Mine
theorem allLt_mem {d : Nat} {r : List (Addr × Obj)} (h : AllLt d r) : ∀ q ∈ r, @LT.lt Nat _ q.1 d := by
  induction r with
  | nil => intro q hq; exact absurd hq (List.not_mem_nil)
  | cons p r ih =>
    intro q hq
    rcases List.mem_cons.mp hq with e | hq
    · rw [e]; exact h.1
    · exact ih h.2 q hq
theorem make_use {w : World} {K : Frag} {p : Program} {loose : List Str} {mean : ExcName → Option Value} {mg mb : Str → Option Value} {f : Addr} {room : Nat} {Pre : List Int → Prop} {Post : List Int → Obj → Prop}
    {dp un : Nat} {gd : Option (List Code)} {cn : Str} {cs : Scope} {a : Addr} {ccd : Value} {cl : List (Str × Addr)} {outer : List Env} {A₀ : Around} {base h₀ : Heap} {L : Addr} {m : Str → Option Value} {news : List (Addr × Obj)} {s : Shared} {l : Addr} {vs : List Value} {ns : List Int} {n : Nat} {Q E : Value → Shared → Prop}
    (C : MakeC w K p loose mean mg mb f room Pre Post) (B : Below A₀ base outer h₀) (F : Fr h₀ L s.heap m) (X : K.In h₀) (N : News h₀ L s.heap news) (hm : (l, W.listOf vs.toArray n) ∈ news) (T : Top p loose mean mg mb h₀) (hk : cs.kind = .function) (hI : IntsAre vs ns) (hp : Pre ns) (hd : dp + room < recursionLimit) (hu : un + 8 * room < cLine)
    (ret : ∀ D o h' tk', Fr h₀ L h' m → News h₀ L h' ((D, o) :: news) → (∀ q ∈ news, q.1 < D) → Post ns o → Q (.ref D) { s with heap := h', toks := tk' }) :
    wpAny (model PG w) (ktrTop dp un gd cn cs L a ccd cl outer) (call (.ref f) [.ref l]) Q E s :=
  C _ _ _ _ _ _ _ _ _ _ _ _ _ _ news _ _ _ _ _ _ _ B F X (List.forall_mem_cons.mpr ⟨N _ hm, N⟩) T hk hI hp hd hu fun D o h' tk' F' N' l1 _ hP => ret D o h' tk' F' (fun q hq => N' q (by
    rcases List.mem_cons.mp hq with h | h
    · rw [h]; exact .head _
    · exact .tail _ (.tail _ h))) (allLt_mem l1) hP
end Mine
end
section
open PySem PySem.W PyProof.Rows PySem.Calls PySem.Spec PyProof.Rows.LCg
namespace Mine
section
variable {prog : Program} {w : World} {A : Around} {E : Value → Shared → Prop} {s : Shared} {env : Env} {h₀ : Heap} {L : Addr} {m : Str → Option Value}
/-- the end of an element in a comprehension's turn -/
def EltEnd (h₀ : Heap) (L : Addr) (m : Str → Option Value) (news : List (Addr × Obj)) (a : Int) (s₁ : Shared) (y : Value) (s₂ : Shared) : Prop :=
  (∃ t, y = .int a t) ∧ ∃ h' tk, s₂ = { s₁ with heap := h', toks := tk } ∧ Fr h₀ L h' m ∧ News h₀ L h' news
theorem map_rest {elt : Expr} {x : Str} {scope : Scope} {cl : List (Str × Addr)} {S : List (Addr × Obj) → Prop} {P : Nat → Value → Prop} {Fin : List Value → List (Addr × Obj) → Prop} {news : List (Addr × Obj)} {n : Nat} {ks : List Int} (f : Int → Int)
    (hks : ks.length = n) (hP : ∀ i v, i < n → P i v → ∃ k t, ks[i]? = some k ∧ v = .int k t) (hS : S news)
    (turn : ∀ k t I oI C oC D m₂ ys h tk (E' : Value → Shared → Prop), k ∈ ks → NsObj oC m₂ → m₂ x = some (.int k t) → Fr h₀ L h m → News h₀ L h ((I, oI) :: (C, oC) :: (D, lst ys) :: news) → Off3 I C D news → ((@Ne Nat I C) ∧ (@Ne Nat I D) ∧ (@Ne Nat C D)) →
      wpAny (model prog w) A (eval elt (compEnvC scope cl C env)) (EltEnd h₀ L m ((I, oI) :: (C, oC) :: (D, lst ys) :: news) (f k) { s with heap := h, toks := tk }) E' { s with heap := h, toks := tk })
    (fin : ∀ ys, IntsAre ys (ks.map f) → Fin ys news) : CompRest prog w A h₀ L m env elt x scope cl s S P Fin n 0 [] news := by
  have key : ∀ (j i : Nat) (ys : List Value), i + j = n → IntsAre ys ((ks.take i).map f) → CompRest prog w A h₀ L m env elt x scope cl s S P Fin j i ys news := by
    intro j
    induction j with
    | zero =>
      intro i ys hi hy
      have e : i = ks.length := by omega
      subst e
      rw [List.take_length] at hy
      exact CompRest.zero (fin ys hy)
    | succ j ih =>
      intro i ys hi hy
      refine CompRest.succ ?_
      intro v I oI C oC D m₂ h tk E' hv hC hx F N off ne
      obtain ⟨k, t, hk, hv'⟩ := hP i v (by omega) hv
      rw [hv'] at hx
      have hs : (ks.take (i + 1)).map f = (ks.take i).map f ++ [f k] := by
        rw [List.take_add_one, hk]; simp
      refine wpAny_mono (turn k t I oI C oC D m₂ ys h tk E' (List.mem_of_getElem? hk) hC hx F N off ne) (fun y s₃ hr => ?_) fun _ _ e => e
      obtain ⟨⟨t', rfl⟩, h', tk', rfl, F', N'⟩ := hr
      refine ⟨h', tk', news, rfl, F', N', off, hS, ih (i + 1) _ (by omega) ?_⟩
      rw [hs]
      exact IntsAre.append hy (.cons _ t' .nil)
  exact key n 0 [] (by omega) (by simp only [List.take_zero, List.map_nil]; exact .nil)
theorem map_ledger {elt : Expr} {x : Str} {scope : Scope} {cl : List (Str × Addr)} {Fin : Shared → List Value → List (Addr × Obj) → Prop} {news : List (Addr × Obj)} {ax : Addr} {us : List Value} {kk : Nat} {ks : List Int} {s₁ : Shared} (f : Int → Int)
    (hh : A.handled = none) (F : Fr h₀ L s₁.heap m) (N : News h₀ L s₁.heap news) (hm : (ax, W.listOf us.toArray kk) ∈ news) (hi : IntsAre us ks) (hsz : ks.length ≤ 1000)
    (turn : ∀ k t I oI C oC D m₂ ys h tk (E' : Value → Shared → Prop), k ∈ ks → NsObj oC m₂ → m₂ x = some (.int k t) → Fr h₀ L h m → News h₀ L h ((I, oI) :: (C, oC) :: (D, lst ys) :: news) → Off3 I C D news → ((@Ne Nat I C) ∧ (@Ne Nat I D) ∧ (@Ne Nat C D)) →
      wpAny (model prog w) A (eval elt (compEnvC scope cl C env)) (EltEnd h₀ L m ((I, oI) :: (C, oC) :: (D, lst ys) :: news) (f k) { s₁ with heap := h, toks := tk }) E' { s₁ with heap := h, toks := tk })
    (fin : ∀ g ys, IntsAre ys (ks.map f) → Fin { s₁ with heap := g } ys news) : CompSrc prog w A h₀ L m env elt x scope cl Fin (.ref ax) s₁ := by
  refine CompSrc.ledger hh F N hm (by rw [List.size_toArray, hi.length, sizeLine_eq]; omega) fun g => ?_
  refine map_rest (s := { s₁ with heap := g }) (ks := ks) f (by rw [List.size_toArray]; exact hi.length.symm) (fun i v _ hv => ?_) (.inr ⟨_, hm, rfl, _, rfl⟩) (fun k t I oI C oC D m₂ ys h tk E' => turn k t I oI C oC D m₂ ys h tk E') (fin g)
  obtain ⟨k, t, e, hk⟩ := IntsAre.at hi i v (by simpa using hv)
  exact ⟨k, t, hk, e⟩
end
end Mine
end
section
open PySem PySem.W PyProof.Rows PySem.Calls PySem.Spec PyProof.V
namespace Mine
section
variable {prog : Program} {w : World} {A : Around} {E : Value → Shared → Prop} {s : Shared} {h₀ : Heap} {L d : Addr} {m : Str → Option Value} {news : List (Addr × Obj)}
theorem dict_sorted {c : List (Int × Int)} {Q : Value → Shared → Prop} (hh : A.handled = none) (F : Fr h₀ L s.heap m) (N : News h₀ L s.heap news) (T : IntTab prog w s.heap d (kdfD c)) (hc : c.length < 60)
    (h : ∀ D h' tk vs' ns' n', Fr h₀ L h' m → News h₀ L h' ((D, W.listOf (List.toArray vs') n') :: news) → (∀ q ∈ news, q.1 < D) → IntsAre vs' ns' → ns'.Perm (c.map (·.1)) → ns'.Pairwise (· ≤ ·) → Q (.ref D) { s with heap := h', toks := tk }) :
    wpAny (model prog w) A (call (.builtin "sorted") [.ref d]) Q E s := by
  obtain ⟨lo, kvs, hD, hf⟩ := T
  obtain ⟨ep, hat⟩ := hD.dictAt
  have hlen : kvs.length = c.length := by rw [← hf.length, kdfD_length]
  refine kdu_sorted (kdl_dict (knd := PySem.intKind prog w) (kvs := kvs) (ep := ep) lo) hh F N hat (kdl_size (by rw [hlen]; omega)) fun D h' tk vs F' N' l1 hl hv => ?_
  have hI : IntsAre vs (c.map (·.1)) := kdy_ints (by rw [hl, hlen, List.length_map]) fun j v hvj => by
    obtain ⟨k, x, hx, hk⟩ := hv j v hvj
    obtain ⟨dv, hd, _⟩ := hf.at hx
    have hd' : (c[j]?).map (fun p => (PyData.int p.1, PyData.int p.2)) = some (PyData.int k, dv) := by rw [← List.getElem?_map]; exact hd
    cases hcj : c[j]? with
    | none => rw [hcj] at hd'; cases hd'
    | some p =>
      rw [hcj] at hd'
      have e1 : PyData.int p.1 = PyData.int k := congrArg Prod.fst (Option.some.inj hd')
      injection e1 with e1
      obtain ⟨t, rfl⟩ := Value.isInt_shape hk
      exact ⟨p.1, by rw [List.getElem?_map, hcj]; rfl, t, by rw [e1]⟩
  have z := N' (D, W.listOf vs.toArray 0) (.head _)
  have hoff : ∀ q ∈ news, q.1 ≠ D := fun q hq => Nat.ne_of_lt (l1 q hq)
  have ho : h'.get? D = some (seqObj "list" vs.toArray 0) := z.1
  refine wpAny_call_entry PyProof.Rows.slot_list_sort ⟨_, z.1, rfl⟩ PyProof.Rows.entry_list_sort (list_sort_tree (n := 0) (vs := vs) ho hI (by rw [hl, hlen]; omega) fun out ns' hI' hp hP => ⟨.none, rfl, ?_⟩) (PyProof.Rows.args_list_sort _)
  have N1 := ki_turn (fun _ => (#[] : Array Value)) (pre := []) (its' := #[]) (n' := _) N' (fun _ h => nomatch h) hoff rfl rfl
  have N2 := News.grown N1 fun _ _ e => Heap.get?_push_of_some (seqObj "tuple" vs.toArray 0) e
  have N3 := News.grown N2 fun _ _ e => Heap.get?_push_of_some (seqObj "list" #[] 0) e
  have N4 := ki_turn (fun _ => out) (pre := []) (its' := out) (n' := _) N3 (fun _ h => nomatch h) hoff rfl rfl
  have F1 : Fr h₀ L (h'.update D (Obj.mapSeq fun _ => (#[] : Array Value))) m := F'.change (Heap.SameBut.update ..) z.2.1 z.2.2
  have F4 : Fr h₀ L ((((h'.update D (Obj.mapSeq fun _ => (#[] : Array Value))).push (seqObj "tuple" vs.toArray 0)).push (seqObj "list" #[] 0)).update D (Obj.mapSeq fun _ => out)) m :=
    ((F1.push (seqObj "tuple" vs.toArray 0)).push (seqObj "list" #[] 0)).change (Heap.SameBut.update ..) z.2.1 z.2.2
  have e9 : out.toList.toArray = out := Array.toArray_toList
  refine h D _ _ out.toList ns' _ F4 (e9.symm ▸ N4) l1 hI' hp hP
end
end Mine
end
section
open PySem PySem.W
namespace Mine
/-- two strictly falling lists with the same members are one -/
theorem desc_ext : ∀ {xs ys : List Int}, xs.Pairwise (fun a b => b < a) → ys.Pairwise (fun a b => b < a) → (∀ v, v ∈ xs ↔ v ∈ ys) → xs = ys
  | [], [], _, _, _ => rfl
  | [], y :: ys, _, _, h => absurd ((h y).mpr (.head _)) (List.not_mem_nil)
  | x :: xs, [], _, _, h => absurd ((h x).mp (.head _)) (List.not_mem_nil)
  | x :: xs, y :: ys, h1, h2, h => by
    obtain ⟨a1, b1⟩ := List.pairwise_cons.mp h1
    obtain ⟨a2, b2⟩ := List.pairwise_cons.mp h2
    have e : x = y := by
      rcases List.mem_cons.mp ((h x).mp (.head _)) with q | q
      · exact q
      · rcases List.mem_cons.mp ((h y).mpr (.head _)) with r | r
        · exact r.symm
        · have := a1 y r
          have := a2 x q
          omega
    subst e
    rw [desc_ext b1 b2 fun v => ?_]
    constructor
    · intro q
      rcases List.mem_cons.mp ((h v).mp (.tail _ q)) with r | r
      · have := a1 v q; omega
      · exact r
    · intro q
      rcases List.mem_cons.mp ((h v).mpr (.tail _ q)) with r | r
      · have := a2 v q; omega
      · exact r
/-- the places due -/
def dueOf (ks : List Int) : List Int := (downKs 7 8).filter fun k => !decide (ks.filter (powTest k) = [])
theorem downKs_desc : (downKs 7 8).Pairwise (fun a b => b < a) := by decide
theorem due_desc (ks : List Int) : (dueOf ks).Pairwise (fun a b => b < a) := downKs_desc.sublist List.filter_sublist
theorem mem_down78 {k : Int} : k ∈ downKs 7 8 ↔ 0 ≤ k ∧ k ≤ 7 := by
  constructor
  · intro h; have := mem_downKs h; omega
  · rintro ⟨h1, h2⟩
    obtain ⟨j, rfl⟩ := Int.eq_ofNat_of_zero_le h1
    have : j < 8 := by omega
    have key : ∀ j : Nat, j < 8 → (j : Int) ∈ downKs 7 8 := by decide
    exact key j this
theorem fdiv_pow {v k : Int} (hv : 0 ≤ v) : v.fdiv (2 ^ k.toNat) = 1 ↔ v.natAbs ≠ 0 ∧ bl v.natAbs = k.toNat + 1 := by
  rw [← div_one_bl]
  obtain ⟨n, rfl⟩ := Int.eq_ofNat_of_zero_le hv
  rw [Int.natAbs_natCast, Int.fdiv_eq_ediv_of_nonneg _ (Int.pow_nonneg (by decide))]
  have e : ((n : Int) / 2 ^ k.toNat) = ((n / 2 ^ k.toNat : Nat) : Int) := by
    rw [Int.natCast_ediv, Int.natCast_pow]; rfl
  rw [e]
  omega
theorem mem_due {nums ks : List Int} (P : PlInv nums ks) {k : Int} : k ∈ dueOf ks ↔ 0 ≤ k ∧ k ≤ 7 ∧ ∃ v : Nat, Span (nums.map Int.natAbs) v ∧ v ≠ 0 ∧ (bl v : Int) = k + 1 := by
  unfold dueOf
  rw [List.mem_filter, mem_down78, and_assoc]
  refine and_congr_right fun h0 => and_congr_right fun h7 => ?_
  constructor
  · intro h
    have h : ¬ ks.filter (powTest k) = [] := by simpa using h
    obtain ⟨v, hv⟩ := List.exists_mem_of_ne_nil _ h
    obtain ⟨h1, h2⟩ := List.mem_filter.mp hv
    have h2 : v.fdiv (2 ^ k.toNat) = 1 := of_decide_eq_true h2
    have b := P.2.1 v h1
    obtain ⟨h3, h4⟩ := (fdiv_pow b.1).mp h2
    refine ⟨v.natAbs, (P.2.2 _).mp ?_, h3, by omega⟩
    have e : ((v.natAbs : Nat) : Int) = v := by omega
    rw [e]; exact h1
  · rintro ⟨v, h1, h2, h3⟩
    have hm := (P.2.2 v).mpr h1
    have : (v : Int) ∈ ks.filter (powTest k) := by
      refine List.mem_filter.mpr ⟨hm, decide_eq_true ((fdiv_pow (by omega)).mpr ?_)⟩
      rw [Int.natAbs_natCast]
      exact ⟨h2, by omega⟩
    have hne : ks.filter (powTest k) ≠ [] := List.ne_nil_of_mem this
    simpa using hne
/-- of a basis the highest places are the due ones -/
theorem places_basis {nums ks bs : List Int} (P : PlInv nums ks) (hb : ∀ t ∈ bs, 0 < t ∧ t < 256) (hs : SameSpan bs nums) (hd : bs.Pairwise fun a b => bl a.natAbs ≠ bl b.natAbs) (k : Int) : k ∈ bs.map (fun t => (bl t.natAbs : Int) - 1) ↔ k ∈ dueOf ks := by
  rw [mem_due P]
  constructor
  · intro h
    obtain ⟨t, ht, rfl⟩ := List.mem_map.mp h
    have b := hb t ht
    have h1 : 0 < bl t.natAbs := bl_pos (by omega)
    have h2 := small_bl (x := t) (by omega) b.2
    exact ⟨by omega, by omega, t.natAbs, (hs _).mp (span_in ht), by omega, by omega⟩
  · rintro ⟨h0, h7, v, hv, hne, he⟩
    obtain ⟨x, hx, e⟩ := span_top (xs := bs.map Int.natAbs) (fun x hx => by
      obtain ⟨t, ht, rfl⟩ := List.mem_map.mp hx
      have := hb t ht
      omega) (List.pairwise_map.mpr hd) ((hs v).mpr hv) hne
    obtain ⟨t, ht, rfl⟩ := List.mem_map.mp hx
    exact List.mem_map.mpr ⟨t, ht, by omega⟩
theorem end_told {nums ks told : List Int} (P : PlInv nums ks) (T : Told3 nums told) : told.map (fun k => (Builtin.Int.intBits k : Int) - 1) = dueOf ks := by
  obtain ⟨a, b, c, d⟩ := T
  have e : told.map (fun k => (Builtin.Int.intBits k : Int) - 1) = told.map (fun t => (bl t.natAbs : Int) - 1) := by
    apply List.map_congr_left
    intro t _
    rw [intBits_bl]
  rw [e]
  refine desc_ext (List.pairwise_map.mpr (d.imp fun {x y} h => by omega)) (due_desc ks) fun v => places_basis P a c (d.imp fun {x y} h => by omega) v
theorem end_kept_mem {nums ks : List Int} {c : List (Int × Int)} (P : PlInv nums ks) (T : Kept3 nums c) (k : Int) : k ∈ c.map (·.1) ↔ k ∈ dueOf ks := by
  obtain ⟨a, b, c', d⟩ := T
  have hb : ∀ t ∈ c.map (·.2), 0 < t ∧ t < 256 := fun t ht => by
    obtain ⟨p, hp, rfl⟩ := List.mem_map.mp ht
    exact (a p hp).1
  have hd : (c.map (·.2)).Pairwise fun a b => bl a.natAbs ≠ bl b.natAbs := by
    refine List.pairwise_map.mpr (List.Pairwise.imp_of_mem (fun {p q} hp hq h => ?_) b)
    have h1 := (a p hp).2
    have h2 := (a q hq).2
    omega
  rw [← places_basis P hb d hd k]
  have e : c.map (·.1) = (c.map (·.2)).map (fun t => (bl t.natAbs : Int) - 1) := by
    rw [List.map_map]
    apply List.map_congr_left
    intro p hp
    exact (a p hp).2
  rw [e]
theorem end_sorted {nums ks ns : List Int} {c : List (Int × Int)} (P : PlInv nums ks) (T : Kept3 nums c) (hp : ns.Perm (c.map (·.1))) (ho : ns.Pairwise (· ≤ ·)) : ns.reverse = dueOf ks := by
  have hd : ns.Pairwise (fun a b => a ≠ b) := by
    have : (c.map (·.1)).Pairwise (fun a b => a ≠ b) := List.pairwise_map.mpr T.2.1
    exact (hp.pairwise_iff (fun {x y} h => Ne.symm h)).mpr this
  refine desc_ext (List.pairwise_reverse.mpr ?_) (due_desc ks) fun v => ?_
  · exact (ho.and hd).imp fun {x y} h => by omega
  · rw [List.mem_reverse, hp.mem_iff]
    exact end_kept_mem P T v
theorem end_told_at {nums ks told : List Int} (P : PlInv nums ks) (T : Told3 nums told) {i : Nat} (hi : i < (dueOf ks).length) : i < told.length ∧ (told.getD i 0).fdiv (2 ^ ((dueOf ks).getD i 0).toNat) = 1 := by
  have e := end_told P T
  have hl := congrArg List.length e
  rw [List.length_map] at hl
  have hi' : i < told.length := by omega
  refine ⟨hi', ?_⟩
  have ht : told.getD i 0 ∈ told := by
    have : told.getD i 0 = told[i] := by simp [hi']
    rw [this]; exact List.getElem_mem hi'
  have b := T.1 _ ht
  rw [fdiv_pow (by omega)]
  have hd : (dueOf ks).getD i 0 = (bl (told.getD i 0).natAbs : Int) - 1 := by
    rw [← e, List.getD_eq_getElem?_getD, List.getElem?_map, List.getElem?_eq_getElem hi']
    simp [hi', intBits_bl]
  rw [hd]
  have : 0 < bl (told.getD i 0).natAbs := bl_pos (by omega)
  omega
theorem due_at {nums ks : List Int} (P : PlInv nums ks) {i : Nat} (hi : i < (dueOf ks).length) : (dueOf ks).getD i 0 ∈ dueOf ks := by
  have : (dueOf ks).getD i 0 = (dueOf ks)[i] := by simp [hi]
  rw [this]; exact List.getElem_mem hi
theorem end_kept_has {nums ks : List Int} {c : List (Int × Int)} (P : PlInv nums ks) (T : Kept3 nums c) {i : Nat} (hi : i < (dueOf ks).length) : kdfHas c ((dueOf ks).getD i 0) = true := by
  have h := (end_kept_mem P T _).mpr (due_at P hi)
  obtain ⟨p, hp, e⟩ := List.mem_map.mp h
  unfold kdfHas
  exact List.any_eq_true.mpr ⟨p, hp, decide_eq_true e⟩
theorem end_kept_at {nums ks : List Int} {c : List (Int × Int)} (P : PlInv nums ks) (T : Kept3 nums c) {i : Nat} (hi : i < (dueOf ks).length) : (kdfLook c ((dueOf ks).getD i 0) 0).fdiv (2 ^ ((dueOf ks).getD i 0).toNat) = 1 := by
  have hm := look_mem (end_kept_has P T hi)
  have b := T.1 _ hm
  dsimp only at b
  rw [fdiv_pow (by omega)]
  have : 0 < bl (kdfLook c ((dueOf ks).getD i 0) 0).natAbs := bl_pos (by omega)
  omega
theorem due_bound {nums ks : List Int} (P : PlInv nums ks) {i : Nat} (hi : i < (dueOf ks).length) : 0 ≤ (dueOf ks).getD i 0 ∧ (dueOf ks).getD i 0 ≤ 7 := by
  have := (mem_due P).mp (due_at P hi)
  exact ⟨this.1, this.2.1⟩
theorem due_len (ks : List Int) : (dueOf ks).length ≤ 8 := by
  have := List.length_filter_le (fun k => !decide (ks.filter (powTest k) = [])) (downKs 7 8)
  rw [downKs_length] at this
  exact this
end Mine
end
section
open PySem PySem.W PyProof.Rows PySem.Calls PySem.Spec PyProof.Rows.LCg
namespace Mine
section
variable {prog : Program} {w : World} {A : Around} {E : Value → Shared → Prop} {s : Shared} {env : Env} {h₀ : Heap} {L : Addr} {m : Str → Option Value}
/-- a comprehension over a range whose test is false at every turn: its turns -/
theorem none_rest {ct elt : Expr} {x : Str} {scope : Scope} {cl : List (Str × Addr)} {S : List (Addr × Obj) → Prop} {Fin : List Value → List (Addr × Obj) → Prop} {news : List (Addr × Obj)} {n : Nat} {a : Int} (hS : S news)
    (turn : ∀ k t I oI C oC D m₂ h tk (E' : Value → Shared → Prop), a ≤ k → k < a + (n : Int) → NsObj oC m₂ → m₂ x = some (.int k t) → Fr h₀ L h m → News h₀ L h ((I, oI) :: (C, oC) :: (D, lst []) :: news) → Off3 I C D news → ((@Ne Nat I C) ∧ (@Ne Nat I D) ∧ (@Ne Nat C D)) →
      wpAny (model prog w) A (isTrue ct (compEnvC scope cl C env) (eval ct (compEnvC scope cl C env))) (TestEnd h₀ L m ((I, oI) :: (C, oC) :: (D, lst []) :: news) false { s with heap := h, toks := tk }) E' { s with heap := h, toks := tk })
    (fin : Fin [] news) : LCt.CompRestT prog w A h₀ L m env ct elt x scope cl s S (fun i v => ∃ t, v = .int (a + (i : Int)) t) Fin n 0 [] news := by
  have key : ∀ (j i : Nat), i + j = n → LCt.CompRestT prog w A h₀ L m env ct elt x scope cl s S (fun i v => ∃ t, v = .int (a + (i : Int)) t) Fin j i [] news := by
    intro j
    induction j with
    | zero => intro i _; exact LCt.CompRestT.zero fin
    | succ j ih =>
      intro i hi
      refine LCt.CompRestT.succ ?_
      intro v I oI C oC D m₂ h tk E' hv hC hx F N off ne
      obtain ⟨t, rfl⟩ := hv
      refine wpAny_mono (turn (a + (i : Int)) t I oI C oC D m₂ h tk E' (by omega) (by omega) hC hx F N off ne) (fun b s' hb => ?_) fun _ _ e => e
      obtain ⟨rfl, h', tk', rfl, F', N'⟩ := hb
      simp only [Bool.false_eq_true, if_false]
      exact ⟨h', tk', news, rfl, F', N', off, hS, ih (i + 1) (by omega)⟩
  exact key n 0 (by omega)
theorem none_range {ct elt : Expr} {x : Str} {scope : Scope} {cl : List (Str × Addr)} {Fin : Shared → List Value → List (Addr × Obj) → Prop} {r : Addr} {b : Int} {t₀ u₀ v₀ : Tok} {news : List (Addr × Obj)} {s₁ : Shared}
    (hh : A.handled = none) (F : Fr h₀ L s₁.heap m) (N : News h₀ L s₁.heap news) (hr : IsRange s₁.heap r 0 b 1 t₀ u₀ v₀) (h0 : 0 ≤ b) (hb : b ≤ 1000)
    (turn : ∀ k t I oI C oC D m₂ h tk (E' : Value → Shared → Prop), 0 ≤ k → k < b → NsObj oC m₂ → m₂ x = some (.int k t) → Fr h₀ L h m → News h₀ L h ((I, oI) :: (C, oC) :: (D, lst []) :: news) → Off3 I C D news → ((@Ne Nat I C) ∧ (@Ne Nat I D) ∧ (@Ne Nat C D)) →
      wpAny (model prog w) A (isTrue ct (compEnvC scope cl C env) (eval ct (compEnvC scope cl C env))) (TestEnd h₀ L m ((I, oI) :: (C, oC) :: (D, lst []) :: news) false { s₁ with heap := h, toks := tk }) E' { s₁ with heap := h, toks := tk })
    (fin : ∀ g, Fin { s₁ with heap := g } [] news) : LCt.CompSrcT prog w A h₀ L m env ct elt x scope cl Fin (.ref r) s₁ := by
  refine LCt.CompSrcT.range (n := b.toNat) hh F N hr (small_one (by omega) (by omega) (by omega) (by omega)) ?_ (by rw [sizeLine_eq]; omega) fun g => ?_
  · have e := rangeSize_nat 0 b
    rw [e]
    simp
  · exact none_rest (s := { s₁ with heap := g }) trivial (fun k t I oI C oC D m₂ h tk E' h1 h2 => turn k t I oI C oC D m₂ h tk E' h1 (by omega)) (fin g)
end
/-- what is due, against what is told and kept -/
def DueF (told : List Int) (c : List (Int × Int)) (due : List Int) : Prop :=
  told.map (fun k => (Builtin.Int.intBits k : Int) - 1) = due ∧ (∀ ns : List Int, ns.Perm (c.map (·.1)) → ns.Pairwise (· ≤ ·) → ns.reverse = due) ∧ due.length ≤ 8 ∧ told.length = due.length ∧
    ∀ i : Int, 0 ≤ i → i < due.length → (0 ≤ due.getD i.toNat 0 ∧ due.getD i.toNat 0 ≤ 7) ∧ kdfHas c (due.getD i.toNat 0) = true ∧ (told.getD i.toNat 0).fdiv (2 ^ (due.getD i.toNat 0).toNat) = 1 ∧ (kdfLook c (due.getD i.toNat 0) 0).fdiv (2 ^ (due.getD i.toNat 0).toNat) = 1
theorem dueF_told {told due : List Int} {c : List (Int × Int)} (H : DueF told c due) : told.map (fun k => (Builtin.Int.intBits k : Int) - 1) = due := H.1
theorem dueF_sorted {told due ns : List Int} {c : List (Int × Int)} (H : DueF told c due) (h1 : ns.Perm (c.map (·.1))) (h2 : ns.Pairwise (· ≤ ·)) : ns.reverse = due := H.2.1 ns h1 h2
theorem dueF_len {told due : List Int} {c : List (Int × Int)} (H : DueF told c due) : due.length ≤ 8 ∧ told.length = due.length := ⟨H.2.2.1, H.2.2.2.1⟩
theorem dueF_at {told due : List Int} {c : List (Int × Int)} (H : DueF told c due) {i : Int} (h0 : 0 ≤ i) (h1 : i < due.length) : (0 ≤ due.getD i.toNat 0 ∧ due.getD i.toNat 0 ≤ 7) ∧ kdfHas c (due.getD i.toNat 0) = true ∧ (told.getD i.toNat 0).fdiv (2 ^ (due.getD i.toNat 0).toNat) = 1 ∧ (kdfLook c (due.getD i.toNat 0) 0).fdiv (2 ^ (due.getD i.toNat 0).toNat) = 1 := H.2.2.2.2 i h0 h1
theorem dueF_tolds {told due : List Int} {c : List (Int × Int)} {ys : List Value} (H : DueF told c due) (h : IntsAre ys (told.map (fun k => (Builtin.Int.intBits k : Int) - 1))) : IntsAre ys due := H.1 ▸ h
theorem dueF_rev {told due ns : List Int} {c : List (Int × Int)} {ys : List Value} (H : DueF told c due) (h1 : ns.Perm (c.map (·.1))) (h2 : ns.Pairwise (· ≤ ·)) (h : IntsAre ys ns.reverse) : IntsAre ys due := H.2.1 ns h1 h2 ▸ h
theorem due_facts {nums told : List Int} {c : List (Int × Int)} {o : Obj} (P : DuePost nums o) (T : Told3 nums told) (K : Kept3 nums c) : ∃ ys due, o = LCg.lst ys ∧ IntsAre ys due ∧ DueF told c due := by
  obtain ⟨ys, ks, ho, hQ, hI⟩ := P
  have e := end_told hQ T
  have hl := congrArg List.length e
  rw [List.length_map] at hl
  refine ⟨ys, dueOf ks, ho, hI, e, fun ns hp hs => end_sorted hQ K hp hs, due_len ks, hl, fun i h0 h1 => ?_⟩
  have hi : i.toNat < (dueOf ks).length := by omega
  exact ⟨due_bound hQ hi, end_kept_has hQ K hi, (end_told_at hQ T hi).2, end_kept_at hQ K hi⟩
end Mine
end
section
open PySem PySem.W PyProof.Rows
namespace Mine
theorem nums_pre (w : List Int) : NumsPre (List.map (fun k' => k'.fmod 256) (List.take 3 w) ++ [129, 130, 67, 64]) := by
  refine ⟨fun x hx => ?_, ?_⟩
  · rcases List.mem_append.mp hx with h | h
    · obtain ⟨k, _, rfl⟩ := List.mem_map.mp h
      exact ⟨Int.fmod_nonneg_of_pos _ (by decide), Int.fmod_lt_of_pos _ (by decide)⟩
    · simp only [List.mem_cons, List.not_mem_nil, or_false] at h
      omega
  · simp only [List.length_append, List.length_map, List.length_take, List.length_cons, List.length_nil]
    omega
theorem kept_len {nums : List Int} {c : List (Int × Int)} (h : Kept3 nums c) : c.length < 60 := Nat.lt_of_le_of_lt h.2.2.1 (by decide)
theorem sorted_size {nums ns : List Int} {c : List (Int × Int)} {vs : List Value} (hI : IntsAre vs ns) (hp : ns.Perm (c.map (·.1))) (h : Kept3 nums c) : vs.toArray.size ≤ sizeLine := by
  have h1 := hI.length
  have h2 := hp.length_eq
  have h3 := h.2.2.1
  rw [List.length_map] at h2
  rw [List.size_toArray, sizeLine_eq]
  omega
theorem test_no {P : Prop} {x y : Int} (h' : x.fdiv y ≠ 1) (h : x.fdiv y = 1) : P := absurd h h'
theorem told_len {nums ks : List Int} (h : Told3 nums ks) : ks.length ≤ 1000 := Nat.le_trans h.2.1 (by decide)
end Mine
end
section
open PySem PySem.W PyProof.Rows Mine
local macro_rules | `(tactic| walk_at "eval ListComp") => `(tactic| (k_here; (with_reducible show wpAny _ _ (eval (Expr.ListComp (Expr.Name _ _) [_] _ _) _) _ _ _); (k_dflt (refine LCt.ListComp_T (F₀ := by k_asm) (by with_unfolding_all rfl) (by decide) (by rfl) (by decide) (by rfl) ?_))))
local macro_rules | `(tactic| walk_at "CompSrcT") => `(tactic| (k_here; (k_dflt (refine' none_range ?kr ?kF ?kN ?ki ?k0 ?kb (fun k' t' I' oI' C' oC' D' m' h' tk' E' hlo' hhi' hC' hx' F' N' off' ne' => ?_) (fun g' => ?_); (case kr => rfl); (case kF => k_asm); (case kN => k_asm); (case ki => assumption); (case k0 => omega); (case kb => omega))); (simp only [LCg.Off3, and_true] at off'); (have hA' := dueF_at (by assumption) hlo' hhi'); (obtain ⟨hA1', hA2', hA3', hA4'⟩ := hA')))
local macro_rules | `(tactic| walk_at "TestEnd") => `(tactic| (k_here; first | exact test_no (by with_reducible assumption) (by with_reducible assumption) | exact ⟨rfl, _, _, rfl, by assumption, by assumption⟩))
local macro_rules | `(tactic| walk_at "eval ListComp") => `(tactic| (k_here; (with_reducible show wpAny _ _ (eval (Expr.ListComp (Expr.Call (Expr.Name _ _) [Expr.Name _ _] [] _) [_] _ _) _) _ _ _); k_dflt (refine LCg.ListComp_U (F₀ := by k_asm) (by with_unfolding_all rfl) (by decide) (by rfl) (by decide) (by rfl) ?_)))
local macro_rules | `(tactic| walk_at "CompSrc") => `(tactic| (k_here; (with_reducible show LCg.CompSrc _ _ _ _ _ _ _ (Expr.Call _ _ _ _) _ _ _ _ _ _); k_dflt (refine map_ledger (fun k => (Builtin.Int.intBits k : Int) - 1) (by rfl) (by k_asm) (by k_asm) (by k_mem) (by assumption) (told_len (by assumption)) (fun k' t' I' oI' C' oC' D' m' ys' h' tk' E' hk' hC' hx' F' N' off' ne' => ?_) (fun g' ys' hI' => ?_)); (all_goals (try (simp only [LCg.Off3, and_true] at off'))); (all_goals (try (replace hI' := dueF_tolds (by assumption) hI')))))
local macro_rules | `(tactic| walk_at "call builtin:sorted") => `(tactic| (k_here; (with_reducible show wpAny _ _ (call (Value.builtin "sorted") [Value.ref _]) _ _ _); (k_dflt (refine dict_sorted (by rfl) (by k_asm) (by k_asm) (by k_tabat) (kept_len (by assumption)) ?_)); intro D' h' tk' vs' ns' n' F' N' l1 hI' hp' ho'; (k_lt l1)))
local macro_rules | `(tactic| walk_at "subscriptTail Name Slice ref ref") => `(tactic| (k_here; (with_reducible show wpAny _ _ (subscriptTail _ (PySem.Expr.Slice none none (some _) _) (Value.ref _) (Value.ref _)) _ _ _); (k_dflt (refine' krv_ints ?F ?N ?l ?k ?i ?_ ?s ?t ?z; (case F => k_asm); (case N => k_asm); (case l => kmk_list); (case k => exact IsPart.int _ _); (case i => with_reducible assumption); (case s => with_unfolding_all rfl); (case t => kmk_pure); (case z => exact sorted_size (by assumption) (by assumption) (by assumption)))); intro D' ws' h' F' N' l1 hI' hC'; (try k_lt l1); (replace hI' := dueF_rev (by assumption) (by assumption) (by assumption) hI')))
local macro_rules | `(tactic| walk_at "EltEnd") => `(tactic| exact ⟨⟨_, rfl⟩, _, _, rfl, by assumption, by assumption⟩)
local macro_rules | `(tactic| walk_at "call ref") => `(tactic| (k_here; (with_reducible show wpAny _ _ (call (Value.ref 21) _) _ _ _); k_dflt (refine' hb_use (high_bit_H _ _ _ _) ?k1 ?k2 ?k3 ?k4 ?k6 ?kK ?kd ?ku ?_; (case k1 => k_asm); (case k2 => k_asm); (case k3 => k_asm); (case k4 => k_asm); (case k6 => k_asm); (case kK => first | exact rfl | assumption); (case kd => ktr_room); (case ku => ktr_units)); intro h9 tk9 t9 F9 N9; (try dsimp only); (try k_fold)))
local macro_rules | `(tactic| walk_at "call ref") => `(tactic| (k_here; (with_reducible show wpAny _ _ (call (Value.ref 63) _) _ _ _); k_dflt (refine' make_use (told_H _ _ _ _) ?k1 ?k2 ?k3 ?k4 ?k5 ?k6 ?kK ?kI ?kP ?kd ?ku ?_; (case k1 => k_asm); (case k2 => k_asm); (case k3 => k_asm); (case k4 => k_asm); (case k5 => k_mem); (case k6 => k_asm); (case kK => first | exact rfl | assumption); (case kI => first | with_reducible assumption | assumption); (case kP => exact nums_pre _); (case kd => ktr_room); (case ku => ktr_units)); intro D9 o9 h9 tk9 F9 N9 l1 hP9; (k_lt l1); (unfold ToldPost at hP9); (obtain ⟨vs9, ns9, n9, ho9, hI9, hT9⟩ := hP9); (subst ho9); (try dsimp only); (try k_fold)))
local macro_rules | `(tactic| walk_at "call ref") => `(tactic| (k_here; (with_reducible show wpAny _ _ (call (Value.ref 70) _) _ _ _); k_dflt (refine' make_use (kept_H _ _ _ _) ?k1 ?k2 ?k3 ?k4 ?k5 ?k6 ?kK ?kI ?kP ?kd ?ku ?_; (case k1 => k_asm); (case k2 => k_asm); (case k3 => k_asm); (case k4 => k_asm); (case k5 => k_mem); (case k6 => k_asm); (case kK => first | exact rfl | assumption); (case kI => first | with_reducible assumption | assumption); (case kP => exact nums_pre _); (case kd => ktr_room); (case ku => ktr_units)); intro D9 o9 h9 tk9 F9 N9 l1 hP9; (k_lt l1); (unfold KeptPost at hP9); (obtain ⟨kvs9, c9, hd9, hf9, hK9⟩ := hP9); (have lo9 : (D9 == sysModules) = false := beq_eq_false_iff_ne.mpr (Nat.ne_of_gt (Nat.lt_trans (modules_low (Top.nolimit (by assumption))) (by omega)))); (try dsimp only); (try k_fold)))
local macro_rules | `(tactic| walk_at "call ref") => `(tactic| (k_here; (with_reducible show wpAny _ _ (call (Value.ref 75) _) _ _ _); k_dflt (refine' make_use (places_H _ _ _ _) ?k1 ?k2 ?k3 ?k4 ?k5 ?k6 ?kK ?kI ?kP ?kd ?ku ?_; (case k1 => k_asm); (case k2 => k_asm); (case k3 => k_asm); (case k4 => k_asm); (case k5 => k_mem); (case k6 => k_asm); (case kK => first | exact rfl | assumption); (case kI => first | with_reducible assumption | assumption); (case kP => exact nums_pre _); (case kd => ktr_room); (case ku => ktr_units)); intro D9 o9 h9 tk9 F9 N9 l1 hP9; (k_lt l1); (have hq9 := due_facts hP9 (by assumption) (by assumption)); (obtain ⟨ys9, due9, ho9, hI9, hD9⟩ := hq9); (clear hP9); (subst ho9); (have hL9 := dueF_len hD9); (obtain ⟨hL8, hL9⟩ := hL9); (try dsimp only); (try k_fold)))
set_option maxRecDepth 100000 in
set_option maxHeartbeats 8000000 in
theorem PySem.Challenge.cw_nq0022_01_holds : PySem.Challenge.rw_nq0022_01.Holds := by
  k_with_none
  exact Mine.hd (by w_on; w_strict (k_go0; (all_goals try k_fold); k_steps))
end
