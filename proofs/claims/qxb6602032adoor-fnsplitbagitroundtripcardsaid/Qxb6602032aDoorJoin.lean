/-
  THE PLAIN LAW of the round trip: lines free of CR and LF, joined by one terminator, with or without a last one, are scanned back.
-/
import Derived.Test.Qxb6602032aDoorScanLaw
namespace Go.Proofs.Qxb6602032aDoor
open Bag

def Free (l : List UInt8) : Prop := ∀ b ∈ l, b ≠ 10 ∧ b ≠ 13
/-- The lines, a terminator between two. -/
def J (T : List UInt8) : List (List UInt8) → List UInt8
  | [] => []
  | [l] => l
  | l :: m :: r => l ++ T ++ J T (m :: r)
theorem J_snoc (T : List UInt8) : ∀ (xs : List (List UInt8)) (y : List UInt8), J T (xs ++ [y]) = J T xs ++ (if xs = [] then [] else T) ++ y
  | [], y => by simp [J]
  | [x], y => by simp [J]
  | x :: m :: r, y => by
    have ih := J_snoc T (m :: r) y
    simp only [List.cons_append] at ih ⊢
    unfold J
    rw [ih]
    simp
theorem scan_free : ∀ (l cur r : List UInt8), Free l → scan cur (l ++ r) = scan (cur ++ l) r
  | [], cur, r, _ => by simp
  | b :: l, cur, r, h => by
    have hb := h b (List.mem_cons_self ..)
    rw [List.cons_append, scan_other _ _ _ hb.1 hb.2, scan_free l _ r (fun x hx => h x (List.mem_cons_of_mem _ hx))]
    simp
def isTerm (T : List UInt8) : Prop := T = [10] ∨ T = [13] ∨ T = [13, 10]
theorem scan_term {T : List UInt8} (hT : isTerm T) (cur r : List UInt8) (hr : T = [13] → r.head? ≠ some 10) : scan cur (T ++ r) = cur :: scan [] r := by
  rcases hT with rfl | rfl | rfl
  · exact scan_lf cur r
  · exact scan_cr cur r (hr rfl)
  · exact scan_crlf cur r
theorem head_free {l r : List UInt8} (hl : Free l) (hr : r.head? ≠ some 10) : (l ++ r).head? ≠ some 10 := by
  cases l with
  | nil => exact hr
  | cons b l =>
    intro e
    simp at e
    exact (hl b (List.mem_cons_self ..)).1 e
theorem head_J {T : List UInt8} (hT : T = [13]) {tt : List UInt8} (ht : tt = [] ∨ tt = T) : ∀ (ls : List (List UInt8)), (∀ l ∈ ls, Free l) → (J T ls ++ tt).head? ≠ some 10
  | [], _ => by rcases ht with rfl | rfl <;> simp [J, hT]
  | [l], h => by
    simp only [J]
    refine head_free (h l (List.mem_cons_self ..)) ?_
    rcases ht with rfl | rfl <;> simp [hT]
  | l :: m :: r, h => by
    simp only [J]
    rw [List.append_assoc, List.append_assoc]
    refine head_free (h l (List.mem_cons_self ..)) ?_
    simp [hT]
theorem scan_J {T : List UInt8} (hT : isTerm T) {tt : List UInt8} (ht : tt = [] ∨ tt = T) : ∀ (ls : List (List UInt8)), ls ≠ [] → (∀ l ∈ ls, Free l) → scan [] (J T ls ++ tt) = ls ++ (if tt = [] then [] else [[]])
  | [], h, _ => absurd rfl h
  | [l], _, h => by
    simp only [J]
    rw [scan_free l [] tt (h l (List.mem_cons_self ..))]
    rcases ht with rfl | rfl
    · simp [scan]
    · have hne : tt ≠ [] := by rcases hT with rfl | rfl | rfl <;> simp
      have := scan_term hT ([] ++ l) [] (by simp)
      rw [List.append_nil] at this
      rw [this, if_neg hne]
      simp [scan]
  | l :: m :: r, _, h => by
    simp only [J]
    rw [List.append_assoc, List.append_assoc, scan_free l [] _ (h l (List.mem_cons_self ..)),
      scan_term hT _ _ (fun e => head_J e ht (m :: r) (fun x hx => h x (List.mem_cons_of_mem _ hx))),
      scan_J hT ht (m :: r) (by simp) (fun x hx => h x (List.mem_cons_of_mem _ hx))]
    simp
/-- THE ROUND TRIP. -/
theorem round_trip {T : List UInt8} (hT : isTerm T) (final : Bool) (ls : List (List UInt8)) (hne : ls ≠ []) (hf : ∀ l ∈ ls, Free l) (hl : final = false → 1 < ls.length → ls.getLast? ≠ some []) :
    fin (scan [] (J T ls ++ (if final then T else []))) = ls := by
  have hTn : T ≠ [] := by rcases hT with rfl | rfl | rfl <;> simp
  cases final with
  | false =>
    simp only [Bool.false_eq_true, if_false]
    rw [scan_J hT (.inl rfl) ls hne hf, if_pos rfl, List.append_nil]
    unfold fin
    rw [if_neg]
    rintro ⟨h1, h2⟩
    exact hl rfl h2 h1
  | true =>
    simp only [if_true]
    rw [scan_J hT (.inr rfl) ls hne hf, if_neg hTn]
    unfold fin
    have : 0 < ls.length := List.length_pos_iff.2 hne
    rw [if_pos ⟨by simp, by simp; omega⟩]
    simp

/-! ### as strings -/
def lenTo (ls : List ByteArray) : Nat → Nat
  | 0 => 0
  | k + 1 => lenTo ls k + (ls.getD k ByteArray.empty).size
def datas (ls : List ByteArray) : List (List UInt8) := ls.map (·.data.toList)
theorem J_step (T : List UInt8) (ls : List ByteArray) (k : Nat) (hk : k < ls.length) :
    J T (datas (ls.take (k + 1))) = J T (datas (ls.take k)) ++ (if 0 < k then T else []) ++ (ls.getD k ByteArray.empty).data.toList := by
  have e : ls.take (k + 1) = ls.take k ++ [ls.getD k ByteArray.empty] := by
    rw [List.take_succ_eq_append_getElem hk]
    simp [hk]
  rw [e]
  unfold datas
  rw [List.map_append, List.map_cons, List.map_nil, J_snoc]
  congr 2
  by_cases h : 0 < k
  · rw [if_pos h, if_neg]
    intro e2
    have := congrArg List.length e2
    rw [List.length_map, List.length_take, List.length_nil] at this
    omega
  · have : k = 0 := by omega
    subst this
    simp
theorem J_len (T : List UInt8) (hT : T.length ≤ 2) (ls : List ByteArray) : ∀ k, k ≤ ls.length → (J T (datas (ls.take k))).length ≤ lenTo ls k + 2 * k
  | 0, _ => by simp [datas, J]
  | k + 1, hk => by
    have ih := J_len T hT ls k (by omega)
    rw [J_step T ls k (by omega)]
    simp only [List.length_append, lenTo, ← Lib.size_eq]
    have : (if 0 < k then T else []).length ≤ 2 := by split <;> simp [hT]
    omega
/-- THE ROUND TRIP, as the walk meets it. -/
theorem trip {T : List UInt8} (hT : isTerm T) (final : Bool) (ls : List ByteArray) (hne : 0 < ls.length) (hf : ∀ i, i < ls.length → Free (ls.getD i ByteArray.empty).data.toList)
    (hl : final = false → 1 < ls.length → (ls.getD (ls.length - 1) ByteArray.empty).size ≠ 0) (s : ByteArray) (hs : s.data.toList = J T (datas ls) ++ (if final then T else [])) : bagB s = ls := by
  refine map_inj ?_
  rw [bag_data, hs]
  refine round_trip hT final (datas ls) (fun e => ?_) (fun l hl' => ?_) (fun h1 h2 h3 => ?_)
  · have := congrArg List.length e
    simp [datas] at this
    rw [this] at hne
    simp at hne
  · unfold datas at hl'
    obtain ⟨x, hx, rfl⟩ := List.mem_map.1 hl'
    obtain ⟨i, hi, rfl⟩ := List.getElem_of_mem hx
    have := hf i hi
    simpa [hi] using this
  · unfold datas at h2 h3
    rw [List.length_map] at h2
    refine hl h1 h2 ?_
    rw [List.getLast?_map] at h3
    have hlast : ls.getLast? = some (ls.getD (ls.length - 1) ByteArray.empty) := by
      rw [List.getLast?_eq_getElem?, List.getElem?_eq_getElem (by omega)]
      simp [show ls.length - 1 < ls.length by omega]
    rw [hlast] at h3
    have : (ls.getD (ls.length - 1) ByteArray.empty).data.toList = [] := by simpa using h3
    rw [Lib.size_eq, this]
    rfl
end Go.Proofs.Qxb6602032aDoor
