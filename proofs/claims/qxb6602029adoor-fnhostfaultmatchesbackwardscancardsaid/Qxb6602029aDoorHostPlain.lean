/-
  THE PLAIN LAW of hostFault: what the two last places and the trim say, against a scan from the end. No program, no world.
-/
import Derived.Lib.LastIndexByte
import Derived.Lib.SlTrimSet
namespace Go.Proofs.Qxb6602029aDoor.Host
open Go

def ds : List UInt8 := [48, 49, 50, 51, 52, 53, 54, 55, 56, 57]
def bt (s : ByteArray) (j : Nat) : Nat := (s.data[j]!).toNat
/-- No ':' and no ']' from k on. -/
def Clear (s : ByteArray) (k : Nat) : Prop := ∀ j, k ≤ j → j < s.size → bt s j ≠ 58 ∧ bt s j ≠ 93
/-- A byte that is no digit stands from k on. -/
def saw (s : ByteArray) (k : Nat) : Bool := (s.data.toList.drop k).any fun b => !(ds.contains b)
def faultB (s : ByteArray) : Bool := decide (Lib.lastIndexByte s 93 < Lib.lastIndexByte s 58) && !(Lib.trimS (s.data.toList.drop (Lib.lastIndexByte s 58 + 1).toNat) ds).isEmpty

theorem dropWhile_nil {p : UInt8 → Bool} : ∀ {l : List UInt8}, l.dropWhile p = [] ↔ l.all p = true
  | [] => by simp
  | a :: r => by
    cases h : p a
    · simp [List.dropWhile, h]
    · simp only [List.dropWhile, h, List.all_cons, Bool.true_and]; exact dropWhile_nil
theorem dropWhile_all {p : UInt8 → Bool} : ∀ {l : List UInt8}, (l.dropWhile p).all p = true → l.all p = true
  | [], _ => rfl
  | a :: r, h => by
    cases ha : p a
    · simp [List.dropWhile, ha] at h
    · simp only [List.dropWhile, ha] at h
      simp only [List.all_cons, ha, Bool.true_and]
      exact dropWhile_all h
theorem trimS_isEmpty (l cs : List UInt8) : (Lib.trimS l cs).isEmpty = l.all (cs.contains ·) := by
  have h1 : (Lib.trimS l cs = []) ↔ l.all (cs.contains ·) = true := by
    unfold Lib.trimS Lib.trimLeftS Lib.trimRightS
    rw [dropWhile_nil, List.all_reverse]
    constructor
    · intro h
      have := dropWhile_all h
      rwa [List.all_reverse] at this
    · intro h
      rw [← List.all_reverse] at h
      rw [dropWhile_nil.2 h]
      rfl
  rw [Bool.eq_iff_iff, ← h1, List.isEmpty_iff]
theorem trim_saw (s : ByteArray) (k : Nat) : (!(Lib.trimS (s.data.toList.drop k) ds).isEmpty) = saw s k := by
  rw [trimS_isEmpty]
  unfold saw
  rw [List.not_all_eq_any_not]

theorem last_of (s : ByteArray) (c k : Nat) (hk : k < s.size) (hc : bt s k = c) (hn : ∀ j, k < j → j < s.size → bt s j ≠ c) : Lib.lastIndexByte s c = k := by
  rcases Lib.lastIndexByte_spec s c with ⟨_, h⟩ | ⟨i, hi, e, hci, h⟩
  · exact absurd (by unfold bt at hc; omega) (h k hk)
  · rw [e]
    have : i = k := by
      rcases Nat.lt_trichotomy i k with g | g | g
      · exact absurd (by unfold bt at hc; omega) (h k g hk)
      · exact g
      · exact absurd (show bt s i = c by unfold bt; omega) (hn i g hi)
    omega
theorem last_lt (s : ByteArray) (c k : Nat) (hn : ∀ j, k ≤ j → j < s.size → bt s j ≠ c) : Lib.lastIndexByte s c < k := by
  rcases Lib.lastIndexByte_spec s c with ⟨e, _⟩ | ⟨i, hi, e, hci, _⟩
  · omega
  · have : ¬ k ≤ i := fun g => hn i g hi (by unfold bt; omega)
    omega
theorem last_ge (s : ByteArray) (c : Int) : -1 ≤ Lib.lastIndexByte s c ∧ Lib.lastIndexByte s c < s.size := by
  rcases Lib.lastIndexByte_spec s c with ⟨e, _⟩ | ⟨i, hi, e, _, _⟩ <;> omega

theorem at_colon (s : ByteArray) (k : Nat) (hk : k < s.size) (hc : bt s k = 58) (hn : Clear s (k + 1)) : faultB s = saw s (k + 1) := by
  have h1 : Lib.lastIndexByte s 58 = k := last_of s 58 k hk hc fun j a b => (hn j a b).1
  have h2 : Lib.lastIndexByte s 93 < k := last_lt s 93 k fun j a b => by
    rcases Nat.lt_or_eq_of_le a with g | g
    · exact (hn j g b).2
    · subst g; omega
  unfold faultB
  rw [h1, decide_eq_true h2, Bool.true_and, show ((k : Int) + 1).toNat = k + 1 by omega, trim_saw]
theorem at_bracket (s : ByteArray) (k : Nat) (hk : k < s.size) (hc : bt s k = 93) (hn : Clear s (k + 1)) : faultB s = false := by
  have h1 : Lib.lastIndexByte s 93 = k := last_of s 93 k hk hc fun j a b => (hn j a b).2
  have h2 : Lib.lastIndexByte s 58 < k := last_lt s 58 k fun j a b => by
    rcases Nat.lt_or_eq_of_le a with g | g
    · exact (hn j g b).1
    · subst g; omega
  unfold faultB
  rw [h1, decide_eq_false (by omega), Bool.false_and]
theorem at_end (s : ByteArray) (hn : Clear s 0) : faultB s = false := by
  have h1 : Lib.lastIndexByte s 58 < (0 : Nat) := last_lt s 58 0 fun j a b => (hn j a b).1
  have h2 := (last_ge s 93).1
  unfold faultB
  rw [decide_eq_false (by omega), Bool.false_and]

theorem saw_top (s : ByteArray) : saw s s.size = false := by
  unfold saw
  rw [List.drop_eq_nil_of_le (by rw [Array.length_toList]; exact Nat.le_refl _)]
  rfl
theorem contains_ds (b : UInt8) : ds.contains b = (decide (48 ≤ b.toNat) && decide (b.toNat ≤ 57)) := by
  have h : ∀ n : Fin 256, ds.contains (UInt8.ofNat n.val) = (decide (48 ≤ n.val) && decide (n.val ≤ 57)) := by decide +kernel
  have := h ⟨b.toNat, b.toNat_lt⟩
  simpa using this
theorem saw_step (s : ByteArray) (k : Nat) (hk : k < s.size) : saw s k = ((decide (bt s k < 48) || decide (57 < bt s k)) || saw s (k + 1)) := by
  unfold saw
  have hl : k < s.data.toList.length := by rw [Array.length_toList]; exact hk
  rw [List.drop_eq_getElem_cons hl, List.any_cons]
  congr 1
  rw [contains_ds]
  have e : bt s k = (s.data.toList[k]).toNat := by
    unfold bt
    congr 1
    rw [getElem!_pos s.data k (by simpa using hl)]
    simp
  rw [e]
  generalize (s.data.toList[k]).toNat = n
  by_cases h1 : n < 48
  · simp [h1]
  · by_cases h2 : 57 < n
    · simp [h2]
    · simp [h1, h2]; omega
theorem clear_top (s : ByteArray) : Clear s s.size := fun j a b => by omega
theorem clear_step (s : ByteArray) (k : Nat) (h1 : bt s k ≠ 58) (h2 : bt s k ≠ 93) (h : Clear s (k + 1)) : Clear s k := fun j a b => by
  rcases Nat.lt_or_eq_of_le a with g | g
  · exact h j g b
  · subst g; exact ⟨h1, h2⟩
end Go.Proofs.Qxb6602029aDoor.Host
