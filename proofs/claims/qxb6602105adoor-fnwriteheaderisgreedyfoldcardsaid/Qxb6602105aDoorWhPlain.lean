/-
  THE PLAIN LAW of writeHeader: words cut at the space, put in lines of at most 78 bytes. No program, no world.
-/
import Derived.Lib.Replace
namespace Go.Proofs.Qxb6602105aDoor
open Go Go.Lib

/-! ### split at the space -/
/-- All pieces between spaces; 'cur' is what the first piece has already. -/
def spl : List UInt8 → List UInt8 → List (List UInt8)
  | cur, [] => [cur]
  | cur, b :: r => if b = 32 then cur :: spl [] r else spl (cur ++ [b]) r
theorem spl_ne : ∀ (cur s : List UInt8), spl cur s ≠ []
  | _, [] => by simp [spl]
  | cur, b :: r => by
    unfold spl
    split
    · simp
    · exact spl_ne _ _
theorem spl_add : ∀ (cur s : List UInt8) , ∃ x xs, spl [] s = x :: xs ∧ spl cur s = (cur ++ x) :: xs
  | cur, [] => ⟨[], [], rfl, by simp [spl]⟩
  | cur, b :: r => by
    unfold spl
    by_cases h : b = 32
    · rw [if_pos h, if_pos h]; exact ⟨[], _, rfl, by simp⟩
    · rw [if_neg h, if_neg h]
      obtain ⟨x, xs, h1, h2⟩ := spl_add (cur ++ [b]) r
      obtain ⟨x', xs', h1', h2'⟩ := spl_add ([] ++ [b]) r
      rw [h1] at h1'
      cases h1'
      exact ⟨[] ++ [b] ++ x, xs, h2', by rw [h2]; simp⟩
theorem split_spl : ∀ (s : List UInt8), split s [32] = spl [] s
  | [] => rfl
  | b :: r => by
    unfold split spl
    by_cases h : b = 32
    · subst h
      have hix : index (32 :: r) [32] = ((0 : Nat) : Int) := by rw [index]; simp [List.isPrefixOf]
      have hc : count (32 :: r) [32] = count r [32] + 1 := by rw [count_cons_eq, Nat.add_comm]
      rw [if_pos rfl, hc, splitK, if_neg (by rw [hix]; decide), hix]
      simp only [Int.toNat_natCast, Nat.add_zero, List.take_zero, List.length_singleton, Nat.zero_add, List.drop_succ_cons, List.drop_zero]
      rw [← split_spl r]; rfl
    · have hp : ([32] : List UInt8).isPrefixOf (b :: r) = false := by simp [List.isPrefixOf]; exact fun e => h e.symm
      have hix : index (b :: r) [32] = if index r [32] == -1 then -1 else index r [32] + 1 := by rw [index, hp]; simp
      rw [if_neg h, count_cons_ne b 32 r h]
      have ih := split_spl r
      unfold split at ih
      obtain ⟨x, xs, h1, h2⟩ := spl_add ([] ++ [b]) r
      rw [h2]
      rw [h1] at ih
      by_cases hm : index r [32] = -1
      · rw [count_miss hm] at ih ⊢
        cases ih
        simp [splitK]
      · have hge := index_ge r [32]
        obtain ⟨j, hj⟩ : ∃ j : Nat, index r [32] = j := ⟨(index r [32]).toNat, by omega⟩
        have hix' : index (b :: r) [32] = ((j + 1 : Nat) : Int) := by rw [hix, if_neg (fun e => hm (beq_iff_eq.1 e)), hj]; omega
        rw [count_hit (by simp) hj, Nat.add_comm] at ih ⊢
        rw [splitK, if_neg (by rw [hj, beq_iff_eq]; omega), hj] at ih
        rw [splitK, if_neg (by rw [hix', beq_iff_eq]; omega), hix']
        simp only [Int.toNat_natCast, Nat.add_zero, List.length_singleton, List.cons.injEq] at ih ⊢
        rw [show j + 1 + 1 = (j + 1) + 1 from rfl, List.take_succ_cons, List.drop_succ_cons]
        exact ⟨by rw [ih.1]; rfl, ih.2⟩


/-! ### pieces -/
/-- The words, a space ahead of each. -/
def pieces : List (List UInt8) → List UInt8
  | [] => []
  | w :: ws => 32 :: w ++ pieces ws
theorem pieces_spl : ∀ (cur s : List UInt8), pieces (spl cur s) = 32 :: cur ++ s
  | cur, [] => by simp [spl, pieces]
  | cur, b :: r => by
    unfold spl
    by_cases h : b = 32
    · rw [if_pos h, pieces, pieces_spl [] r, h]
      simp
    · rw [if_neg h, pieces_spl _ r]
      simp
theorem free_spl : ∀ (cur s : List UInt8), (∀ b ∈ cur, b ≠ 32) → ∀ w ∈ spl cur s, ∀ b ∈ w, b ≠ 32
  | cur, [], h, w, hw => by
    simp [spl] at hw
    subst hw
    exact h
  | cur, b :: r, h, w, hw => by
    unfold spl at hw
    by_cases hb : b = 32
    · rw [if_pos hb] at hw
      rcases List.mem_cons.1 hw with e | e
      · rw [e]; exact h
      · exact free_spl [] r (by simp) w e
    · rw [if_neg hb] at hw
      refine free_spl _ r (fun x hx => ?_) w hw
      rcases List.mem_append.1 hx with e | e
      · exact h x e
      · have : x = b := by simpa using e
        rw [this]; exact hb

/-! ### the lines -/
/-- What is written behind a line that is L bytes long. -/
def emit : Nat → List (List UInt8) → List UInt8
  | _, [] => [13, 10]
  | L, w :: ws => if 78 < L + 1 + w.length then 13 :: 10 :: 32 :: w ++ emit (1 + w.length) ws else 32 :: w ++ emit (L + 1 + w.length) ws
theorem emit_fold {L : Nat} {w : List UInt8} (ws : List (List UInt8)) (h : 78 < L + 1 + w.length) : emit L (w :: ws) = 13 :: 10 :: 32 :: w ++ emit (1 + w.length) ws := by simp only [emit, if_pos h]
theorem emit_stay {L : Nat} {w : List UInt8} (ws : List (List UInt8)) (h : ¬ 78 < L + 1 + w.length) : emit L (w :: ws) = 32 :: w ++ emit (L + 1 + w.length) ws := by simp only [emit, if_neg h]
theorem emit_len : ∀ (ws : List (List UInt8)) (L : Nat), (pieces ws).length + 2 ≤ (emit L ws).length ∧ (emit L ws).length ≤ (pieces ws).length + 2 * ws.length + 2
  | [], L => by simp [emit, pieces]
  | w :: ws, L => by
    by_cases h : 78 < L + 1 + w.length
    · have ih := emit_len ws (1 + w.length)
      rw [emit_fold ws h]
      simp only [pieces, List.length_append, List.length_cons]
      omega
    · have ih := emit_len ws (L + 1 + w.length)
      rw [emit_stay ws h]
      simp only [pieces, List.length_append, List.length_cons]
      omega
/-- WHERE ALL FITS, nothing is folded. -/
theorem emit_short : ∀ (ws : List (List UInt8)) (L : Nat), L + (pieces ws).length ≤ 78 → emit L ws = pieces ws ++ [13, 10]
  | [], L, _ => by simp [emit, pieces]
  | w :: ws, L, h => by
    simp only [pieces, List.length_append, List.length_cons] at h
    rw [emit_stay ws (by omega), emit_short ws _ (by omega)]
    simp [pieces]
end Go.Proofs.Qxb6602105aDoor
