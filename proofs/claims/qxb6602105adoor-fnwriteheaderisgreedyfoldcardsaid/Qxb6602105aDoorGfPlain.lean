/-
  PLAIN FACTS under zzIsGreedyFold: where the bytes of the output lie.
-/
import Derived.Test.Qxb6602105aDoorWhSrc
namespace Go.Proofs.Qxb6602105aDoor
open Go.RowKit

def Sx (value : ByteArray) : List UInt8 := 32 :: value.data.toList
theorem Sx_len (value : ByteArray) : (Sx value).length = value.size + 1 := by simp [Sx]
theorem drop_split {O A R : List UInt8} {k : Nat} (h : O.drop k = A ++ R) (hA : 0 < A.length) : k + A.length + R.length = O.length ∧ (∀ t, t < A.length → O.getD (k + t) 0 = A.getD t 0) ∧ O.drop (k + A.length) = R := by
  have hl := congrArg List.length h
  rw [List.length_drop, List.length_append] at hl
  refine ⟨by omega, fun t ht => ?_, ?_⟩
  · have h2 : (O.drop k)[t]? = (A ++ R)[t]? := by rw [h]
    rw [List.getElem?_drop, List.getElem?_append_left ht] at h2
    rw [List.getD_eq_getElem?_getD, h2, List.getD_eq_getElem?_getD]
  · rw [← List.drop_drop, h, List.drop_left]
/-- What the outer loop keeps. -/
structure GInv (O S : List UInt8) (k L it j : Nat) (ws : List (List UInt8)) : Prop where
  s : S.drop j = pieces ws
  o : O.drop k = emit L ws
  free : ∀ w ∈ ws, ∀ b ∈ w, b ≠ 32
  two : 2 ≤ it → L ≤ 78
  jl : j ≤ S.length
  itj : it ≤ j + 1
  Lb : L ≤ 262145 + j
theorem ginv_start (pre : List UInt8) (name value : ByteArray) (hn : name.size ≤ 262144) : GInv (outL pre name value) (Sx value) (pre.length + name.size + 1) (name.size + 1) 1 0 (spl [] value.data.toList) where
  s := by rw [pieces_spl]; simp [Sx]
  o := by
    unfold outL whL
    have : pre ++ (name.data.toList ++ 58 :: emit (name.size + 1) (spl [] value.data.toList)) = (pre ++ name.data.toList ++ [58]) ++ emit (name.size + 1) (spl [] value.data.toList) := by simp
    rw [this]
    have h2 : pre.length + name.size + 1 = (pre ++ name.data.toList ++ [58]).length := by simp; omega
    rw [h2, List.drop_left]
  free := free_spl [] _ (by simp)
  two := by omega
  jl := by omega
  itj := by omega
  Lb := by omega
theorem ginv_word {O S : List UInt8} {k L it j : Nat} {ws : List (List UInt8)} (h : GInv O S k L it j ws) (hj : j < S.length) : ∃ w r, ws = w :: r := by
  cases ws with
  | nil =>
    have := congrArg List.length h.s
    rw [List.length_drop] at this
    simp [pieces] at this
    omega
  | cons w r => exact ⟨w, r, rfl⟩
theorem ginv_end {O S : List UInt8} {k L it : Nat} {ws : List (List UInt8)} (h : GInv O S k L it S.length ws) : k + 2 = O.length := by
  have hw : ws = [] := by
    have := congrArg List.length h.s
    rw [List.length_drop] at this
    cases ws with
    | nil => rfl
    | cons w r => simp [pieces] at this
  have := h.o
  rw [hw] at this
  have h2 := congrArg List.length this
  rw [List.length_drop] at h2
  simp [emit] at h2
  omega
/-- The piece ahead, in the text. -/
theorem ginv_s {O S : List UInt8} {k L it j : Nat} {w : List UInt8} {r : List (List UInt8)} (h : GInv O S k L it j (w :: r)) :
    j + 1 + w.length + (pieces r).length = S.length ∧ (∀ t, t < 1 + w.length → S.getD (j + t) 0 = (32 :: w).getD t 0) ∧ S.drop (j + 1 + w.length) = pieces r := by
  have := drop_split (A := 32 :: w) (R := pieces r) h.s (by simp)
  simp only [List.length_cons] at this
  refine ⟨by omega, fun t ht => this.2.1 t (by omega), ?_⟩
  rw [show j + 1 + w.length = j + (w.length + 1) by omega]
  exact this.2.2
theorem ginv_in {O S : List UInt8} {k L it j : Nat} {w : List UInt8} {r : List (List UInt8)} (h : GInv O S k L it j (w :: r)) (t : Nat) (ht : t < w.length) : S.getD (j + 1 + t) 0 ≠ 32 := by
  have := (ginv_s h).2.1 (1 + t) (by omega)
  rw [show j + 1 + t = j + (1 + t) by omega, this]
  have e : (32 :: w).getD (1 + t) 0 = w[t] := by
    rw [Nat.add_comm, List.getD_cons_succ]
    simp [ht]
  rw [e]
  exact h.free w (List.mem_cons_self ..) _ (List.getElem_mem ht)
theorem ginv_stop {O S : List UInt8} {k L it j : Nat} {w : List UInt8} {r : List (List UInt8)} (h : GInv O S k L it j (w :: r)) (hlt : j + 1 + w.length < S.length) : S.getD (j + 1 + w.length) 0 = 32 := by
  have := (ginv_s h).2.2
  cases r with
  | nil =>
    have h2 := congrArg List.length this
    rw [List.length_drop] at h2
    simp [pieces] at h2
    omega
  | cons x r =>
    have h2 := (drop_split (A := [32]) (R := x ++ pieces r) this (by simp)).2.1 0 (by simp)
    simpa using h2
/-- FOLDED: what the output holds, and what holds behind the piece. -/
theorem ginv_fold {O S : List UInt8} {k L it j : Nat} {w : List UInt8} {r : List (List UInt8)} (h : GInv O S k L it j (w :: r)) (hf : 78 < L + 1 + w.length) :
    k + 2 + 1 + w.length + 2 ≤ O.length ∧ O.getD k 0 = 13 ∧ O.getD (k + 1) 0 = 10 ∧ (∀ t, t < 1 + w.length → O.getD (k + 2 + t) 0 = S.getD (j + t) 0) ∧ GInv O S (k + 2 + (1 + w.length)) (1 + w.length) 1 (j + 1 + w.length) r := by
  have hs := ginv_s h
  have ho := h.o
  rw [emit_fold r hf] at ho
  have h1 := drop_split (A := [13, 10]) (R := 32 :: w ++ emit (1 + w.length) r) ho (by simp)
  have h2 := drop_split (A := 32 :: w) (R := emit (1 + w.length) r) h1.2.2 (by simp)
  have hl := (emit_len r (1 + w.length)).1
  simp only [List.length_cons, List.length_nil] at h1 h2
  refine ⟨by omega, h1.2.1 0 (by omega), h1.2.1 1 (by omega), fun t ht => ?_, ?_⟩
  · rw [hs.2.1 t ht]
    exact h2.2.1 t (by omega)
  · refine ⟨hs.2.2, ?_, fun x hx => h.free x (List.mem_cons_of_mem _ hx), by omega, by omega, by omega, by omega⟩
    rw [show k + 2 + (1 + w.length) = k + (0 + 1 + 1) + (w.length + 1) by omega]
    exact h2.2.2
/-- NOT FOLDED. -/
theorem ginv_stay {O S : List UInt8} {k L it j : Nat} {w : List UInt8} {r : List (List UInt8)} (h : GInv O S k L it j (w :: r)) (hf : ¬ 78 < L + 1 + w.length) :
    k + 1 + w.length + 2 ≤ O.length ∧ O.getD k 0 = 32 ∧ (∀ t, t < 1 + w.length → O.getD (k + t) 0 = S.getD (j + t) 0) ∧ GInv O S (k + (1 + w.length)) (L + (1 + w.length)) (it + 1) (j + 1 + w.length) r := by
  have hs := ginv_s h
  have ho := h.o
  rw [emit_stay r hf] at ho
  have h2 := drop_split (A := 32 :: w) (R := emit (L + 1 + w.length) r) ho (by simp)
  have hl := (emit_len r (L + 1 + w.length)).1
  have hit := h.itj
  have hLb := h.Lb
  simp only [List.length_cons] at h2
  refine ⟨by omega, h2.2.1 0 (by omega), fun t ht => ?_, ?_⟩
  · rw [hs.2.1 t ht]
    exact h2.2.1 t (by omega)
  · refine ⟨hs.2.2, ?_, fun x hx => h.free x (List.mem_cons_of_mem _ hx), by omega, by omega, by omega, by omega⟩
    rw [show k + (1 + w.length) = k + (w.length + 1) by omega, show L + (1 + w.length) = L + 1 + w.length by omega]
    exact h2.2.2
/-! ### the head and the tail of the output -/
theorem out_len (pre : List UInt8) (name value : ByteArray) : pre.length + name.size + 1 + value.size + 1 + 2 ≤ (outL pre name value).length ∧ (outL pre name value).length ≤ pre.length + name.size + 3 * value.size + 6 := by
  have h2 := whL_len name value
  have h1 := (emit_len (spl [] value.data.toList) (name.size + 1)).1
  rw [pieces_spl] at h1
  unfold outL
  constructor
  · unfold whL
    simp only [List.length_append, List.length_cons, ← Lib.size_eq, List.length_nil] at h1 ⊢
    omega
  · simp only [List.length_append]
    omega
theorem out_pre (pre : List UInt8) (name value : ByteArray) (i : Nat) (h : i < pre.length) : (outL pre name value).getD i 0 = pre[i] := by
  unfold outL
  rw [List.getD_eq_getElem?_getD, List.getElem?_append_left h]
  simp [h]
theorem out_name (pre : List UInt8) (name value : ByteArray) (i : Nat) (h : i < name.size) : (outL pre name value).getD (pre.length + i) 0 = name[i] := by
  unfold outL whL
  have hl : i < name.data.toList.length := by rw [← Lib.size_eq]; exact h
  rw [List.getD_eq_getElem?_getD, List.getElem?_append_right (by omega), show pre.length + i - pre.length = i by omega, List.getElem?_append_left hl, List.getElem?_eq_getElem hl]
  rfl
theorem out_colon (pre : List UInt8) (name value : ByteArray) : (outL pre name value).getD (pre.length + name.size) 0 = 58 := by
  unfold outL whL
  rw [List.getD_eq_getElem?_getD, List.getElem?_append_right (by omega), show pre.length + name.size - pre.length = name.data.toList.length by rw [← Lib.size_eq]; omega, List.getElem?_append_right (Nat.le_refl _)]
  simp
theorem emit_tail : ∀ (ws : List (List UInt8)) (L : Nat), ∃ A, emit L ws = A ++ [13, 10]
  | [], _ => ⟨[], rfl⟩
  | w :: ws, L => by
    by_cases h : 78 < L + 1 + w.length
    · obtain ⟨A, hA⟩ := emit_tail ws (1 + w.length)
      exact ⟨13 :: 10 :: 32 :: w ++ A, by rw [emit_fold ws h, hA]; simp⟩
    · obtain ⟨A, hA⟩ := emit_tail ws (L + 1 + w.length)
      exact ⟨32 :: w ++ A, by rw [emit_stay ws h, hA]; simp⟩
theorem out_tail (pre : List UInt8) (name value : ByteArray) : (outL pre name value).getD ((outL pre name value).length - 2) 0 = 13 ∧ (outL pre name value).getD ((outL pre name value).length - 2 + 1) 0 = 10 := by
  obtain ⟨A, hA⟩ := emit_tail (spl [] value.data.toList) (name.size + 1)
  have e : outL pre name value = (pre ++ name.data.toList ++ 58 :: A) ++ [13, 10] := by
    unfold outL whL
    rw [hA]
    simp
  have hd : (outL pre name value).drop ((pre ++ name.data.toList ++ 58 :: A).length) = [13, 10] ++ [] := by rw [e, List.drop_left, List.append_nil]
  have h1 := drop_split hd (by simp)
  have hl : (outL pre name value).length - 2 = (pre ++ name.data.toList ++ 58 :: A).length := by rw [e]; simp; omega
  rw [hl]
  exact ⟨h1.2.1 0 (by simp), h1.2.1 1 (by simp)⟩
end Go.Proofs.Qxb6602105aDoor
