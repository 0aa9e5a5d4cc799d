/-
  THE PLAIN LAW of splitBagIt: the two replacings are one pass over the text; the cut at LF, behind a trimmed last LF, gives the lines that a one-pass scan finds. No program, no world.
-/
import Derived.Lib.Replace
namespace Go.Proofs.Qxb6602032aDoor.Bag
open Go Go.Lib

/-! ### replaceAll, step by step -/
section
variable {old new : List UInt8}
theorem rep_unfold (hne : old ≠ new) (s : List UInt8) : replaceAll s old new = replaceK old new (count s old) s := by
  unfold replaceAll replace replaceNum
  rw [if_neg (by simpa using hne), if_pos (Or.inl (by decide))]
theorem rep_nil (ho : old ≠ []) (hne : old ≠ new) : replaceAll [] old new = [] := by
  have h : index [] old = -1 := by
    unfold index
    rw [if_neg (by simpa using ho)]
  rw [rep_unfold hne, count_miss h]; rfl
theorem rep_hit (ho : old ≠ []) (hne : old ≠ new) (r : List UInt8) : replaceAll (old ++ r) old new = new ++ replaceAll r old new := by
  have h : index (old ++ r) old = (0 : Nat) := index_first (Nat.zero_le _) (by simp [occAt]) (fun j hj => absurd hj (Nat.not_lt_zero _))
  rw [rep_unfold hne, rep_unfold hne, count_hit ho h, Nat.add_comm, replaceK_hit old new _ _ 0 h]
  simp
theorem rep_miss (ho : old ≠ []) (hne : old ≠ new) (b : UInt8) (r : List UInt8) (hp : old.isPrefixOf (b :: r) = false) : replaceAll (b :: r) old new = b :: replaceAll r old new := by
  have hix : index (b :: r) old = if index r old == -1 then -1 else index r old + 1 := by rw [index, hp]; simp
  rw [rep_unfold hne, rep_unfold hne]
  by_cases hm : index r old = -1
  · rw [count_miss hm, count_miss (by rw [hix, if_pos (beq_iff_eq.2 hm)])]; rfl
  · have hge := index_ge r old
    obtain ⟨j, hj⟩ : ∃ j : Nat, index r old = j := ⟨(index r old).toNat, by omega⟩
    have hix' : index (b :: r) old = ((j + 1 : Nat) : Int) := by rw [hix, if_neg (fun e => hm (beq_iff_eq.1 e)), hj]; omega
    rw [count_hit ho hj, count_hit ho hix', Nat.add_comm 1, replaceK_hit old new _ _ (j + 1) hix', Nat.add_comm 1, replaceK_hit old new _ _ j hj]
    rw [show j + 1 + old.length = (j + old.length) + 1 by omega]
    simp
end

/-- CRLF, CR and LF each made one LF. -/
def norm : List UInt8 → List UInt8
  | [] => []
  | [b] => [if b = 13 then 10 else b]
  | b :: c :: r => if b = 13 then (if c = 10 then 10 :: norm r else 10 :: norm (c :: r)) else b :: norm (c :: r)

def one (b : UInt8) : UInt8 := if b = 13 then 10 else b
theorem rep2 : ∀ s : List UInt8, replaceAll s [13] [10] = s.map one
  | [] => rep_nil (by simp) (by decide)
  | b :: r => by
    by_cases h : b = 13
    · subst h
      have := rep_hit (old := [13]) (new := [10]) (by simp) (by decide) r
      simp only [List.singleton_append] at this
      rw [this, rep2 r]; rfl
    · rw [rep_miss (by simp) (by decide) b r (by simp [List.isPrefixOf]; exact fun e => h e.symm), rep2 r]
      simp [one, h]
theorem rep1_map : ∀ (n : Nat) (s : List UInt8), s.length ≤ n → (replaceAll s [13, 10] [10]).map one = norm s
  | _, [], _ => by rw [rep_nil (by simp) (by decide)]; rfl
  | _, [b], _ => by
    rw [rep_miss (by simp) (by decide) b [] (by simp [List.isPrefixOf]), rep_nil (by simp) (by decide)]; rfl
  | 0, _ :: _ :: _, h => by simp at h
  | n + 1, b :: c :: r, h => by
    unfold norm
    by_cases hb : b = 13
    · subst hb
      rw [if_pos rfl]
      by_cases hc : c = 10
      · subst hc
        rw [if_pos rfl]
        have := rep_hit (old := [13, 10]) (new := [10]) (by simp) (by decide) r
        simp only [List.cons_append, List.nil_append] at this
        rw [this, List.map_cons, rep1_map n r (by simp at h; omega)]
        rfl
      · rw [if_neg hc, rep_miss (by simp) (by decide) 13 (c :: r) (by simp [List.isPrefixOf]; exact fun e => absurd e.symm hc), List.map_cons, rep1_map n (c :: r) (by simp at h ⊢; omega)]
        rfl
    · rw [if_neg hb, rep_miss (by simp) (by decide) b (c :: r) (by simp [List.isPrefixOf]; exact fun e => absurd e.symm hb), List.map_cons, rep1_map n (c :: r) (by simp at h ⊢; omega)]
      simp [one, hb]
theorem rep_norm (s : List UInt8) : replaceAll (replaceAll s [13, 10] [10]) [13] [10] = norm s := by
  rw [rep2]; exact rep1_map s.length s (Nat.le_refl _)

/-! ### split at LF -/
/-- All pieces between LFs; 'cur' is what the first piece has already. -/
def spl : List UInt8 → List UInt8 → List (List UInt8)
  | cur, [] => [cur]
  | cur, b :: r => if b = 10 then cur :: spl [] r else spl (cur ++ [b]) r
theorem spl_ne : ∀ (cur s : List UInt8), spl cur s ≠ []
  | _, [] => by simp [spl]
  | cur, b :: r => by
    unfold spl
    split
    · simp
    · exact spl_ne _ _
theorem spl_add : ∀ (cur s : List UInt8) , ∃ x xs, spl [] s = x :: xs ∧ spl cur s = (cur ++ x) :: xs
  | cur, [] => ⟨[], [], rfl, by simp [spl]⟩
  | cur, b :: r => by
    unfold spl
    by_cases h : b = 10
    · rw [if_pos h, if_pos h]; exact ⟨[], _, rfl, by simp⟩
    · rw [if_neg h, if_neg h]
      obtain ⟨x, xs, h1, h2⟩ := spl_add (cur ++ [b]) r
      obtain ⟨x', xs', h1', h2'⟩ := spl_add ([] ++ [b]) r
      rw [h1] at h1'
      cases h1'
      exact ⟨[] ++ [b] ++ x, xs, h2', by rw [h2]; simp⟩
theorem split_spl : ∀ (s : List UInt8), split s [10] = spl [] s
  | [] => rfl
  | b :: r => by
    unfold split spl
    by_cases h : b = 10
    · subst h
      have hix : index (10 :: r) [10] = ((0 : Nat) : Int) := by rw [index]; simp [List.isPrefixOf]
      have hc : count (10 :: r) [10] = count r [10] + 1 := by rw [count_cons_eq, Nat.add_comm]
      rw [if_pos rfl, hc, splitK, if_neg (by rw [hix]; decide), hix]
      simp only [Int.toNat_natCast, Nat.add_zero, List.take_zero, List.length_singleton, Nat.zero_add, List.drop_succ_cons, List.drop_zero]
      rw [← split_spl r]; rfl
    · have hp : ([10] : List UInt8).isPrefixOf (b :: r) = false := by simp [List.isPrefixOf]; exact fun e => h e.symm
      have hix : index (b :: r) [10] = if index r [10] == -1 then -1 else index r [10] + 1 := by rw [index, hp]; simp
      rw [if_neg h, count_cons_ne b 10 r h]
      have ih := split_spl r
      unfold split at ih
      obtain ⟨x, xs, h1, h2⟩ := spl_add ([] ++ [b]) r
      rw [h2]
      rw [h1] at ih
      by_cases hm : index r [10] = -1
      · rw [count_miss hm] at ih ⊢
        cases ih
        simp [splitK]
      · have hge := index_ge r [10]
        obtain ⟨j, hj⟩ : ∃ j : Nat, index r [10] = j := ⟨(index r [10]).toNat, by omega⟩
        have hix' : index (b :: r) [10] = ((j + 1 : Nat) : Int) := by rw [hix, if_neg (fun e => hm (beq_iff_eq.1 e)), hj]; omega
        rw [count_hit (by simp) hj, Nat.add_comm] at ih ⊢
        rw [splitK, if_neg (by rw [hj, beq_iff_eq]; omega), hj] at ih
        rw [splitK, if_neg (by rw [hix', beq_iff_eq]; omega), hix']
        simp only [Int.toNat_natCast, Nat.add_zero, List.length_singleton, List.cons.injEq] at ih ⊢
        rw [show j + 1 + 1 = (j + 1) + 1 from rfl, List.take_succ_cons, List.drop_succ_cons]
        exact ⟨by rw [ih.1]; rfl, ih.2⟩

/-! ### the trimmed last LF -/
theorem spl_snoc : ∀ (cur s : List UInt8), spl cur (s ++ [10]) = spl cur s ++ [[]]
  | cur, [] => by simp [spl]
  | cur, b :: r => by
    rw [List.cons_append]
    unfold spl
    split
    · rw [spl_snoc [] r]; rfl
    · exact spl_snoc _ r
/-- A text that is not empty and does not end in LF: its last piece is not empty. -/
theorem spl_last : ∀ (cur s : List UInt8), (s = [] → cur ≠ []) → (∀ t, s ≠ t ++ [10]) → (spl cur s).getLast? ≠ some []
  | cur, [], h, _ => by simp [spl, h rfl]
  | cur, b :: r, _, hs => by
    unfold spl
    by_cases hb : b = 10
    · rw [if_pos hb]
      have hr : r ≠ [] := fun e => hs [] (by rw [e, hb]; rfl)
      have := spl_last [] r (fun e => absurd e hr) (fun t e => hs (b :: t) (by rw [e]; rfl))
      rw [List.getLast?_cons_of_ne_nil (spl_ne _ _)]
      exact this
    · rw [if_neg hb]
      exact spl_last (cur ++ [b]) r (fun _ => by simp) (fun t e => hs (b :: t) (by rw [e]; rfl))
/-- What a list of pieces becomes: a last empty piece behind others is no line. -/
def fin (ps : List (List UInt8)) : List (List UInt8) := if ps.getLast? = some [] ∧ 1 < ps.length then ps.dropLast else ps
theorem split_fin (l : List UInt8) : split (trimSuffix l [10]) [10] = fin (spl [] l) := by
  rw [split_spl]
  unfold trimSuffix
  by_cases h : hasSuffix l [10] = true
  · rw [if_pos h]
    obtain ⟨t, rfl⟩ := List.isSuffixOf_iff_suffix.1 h
    have e : (t ++ [10]).take ((t ++ [10]).length - [(10 : UInt8)].length) = t := by simp
    rw [e, spl_snoc]
    unfold fin
    have : 0 < (spl [] t).length := List.length_pos_iff.2 (spl_ne _ _)
    rw [if_pos ⟨by simp, by simp; omega⟩]
    simp
  · rw [if_neg h]
    unfold fin
    rw [if_neg]
    rintro ⟨h1, h2⟩
    by_cases hl : l = []
    · subst hl; simp [spl] at h2
    · exact spl_last [] l (fun e => absurd e hl) (fun t e => h (List.isSuffixOf_iff_suffix.2 ⟨t, e.symm⟩)) h1

/-! ### the one-pass scan -/
def scan : List UInt8 → List UInt8 → List (List UInt8)
  | cur, [] => [cur]
  | cur, [b] => if b = 10 ∨ b = 13 then [cur, []] else [cur ++ [b]]
  | cur, b :: c :: r => if b = 10 then cur :: scan [] (c :: r) else if b = 13 then (if c = 10 then cur :: scan [] r else cur :: scan [] (c :: r)) else scan (cur ++ [b]) (c :: r)
theorem scan_spl : ∀ (n : Nat) (cur s : List UInt8), s.length ≤ n → scan cur s = spl cur (norm s)
  | _, cur, [], _ => rfl
  | _, cur, [b], _ => by
    unfold scan norm
    by_cases h1 : b = 13
    · subst h1; simp [spl]
    · by_cases h2 : b = 10
      · subst h2; simp [spl]
      · simp [spl, h1, h2]
  | 0, cur, _ :: _ :: _, h => by simp at h
  | n + 1, cur, b :: c :: r, h => by
    unfold scan norm
    by_cases h2 : b = 10
    · subst h2
      rw [if_pos rfl, if_neg (by decide), scan_spl n [] (c :: r) (by simp at h ⊢; omega)]
      simp [spl]
    · rw [if_neg h2]
      by_cases h1 : b = 13
      · rw [if_pos h1, if_pos h1]
        by_cases hc : c = 10
        · rw [if_pos hc, if_pos hc, scan_spl n [] r (by simp at h; omega)]; simp [spl]
        · rw [if_neg hc, if_neg hc, scan_spl n [] (c :: r) (by simp at h ⊢; omega)]; simp [spl]
      · rw [if_neg h1, if_neg h1, scan_spl n _ (c :: r) (by simp at h ⊢; omega)]
        simp [spl, h2]
/-- THE LAW of the first statement. -/
theorem bag_scan (s : List UInt8) : split (trimSuffix (replaceAll (replaceAll s [13, 10] [10]) [13] [10]) [10]) [10] = fin (scan [] s) := by
  rw [rep_norm, split_fin, scan_spl s.length [] s (Nat.le_refl _)]
end Go.Proofs.Qxb6602032aDoor.Bag
