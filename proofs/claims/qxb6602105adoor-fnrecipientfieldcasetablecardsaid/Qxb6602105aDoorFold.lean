/-
  THE PLAIN LAW under FnRecipientFieldCaseTable: what lower-casing makes of the head of a text. Only the ASCII letters, U+0130 and U+212A lower into ASCII.
-/
import Derived.Lib.MapLaws
import Derived.Lib.TrimAscii
import Derived.Lib.TrimUEq
import Derived.Lib.TrimU
import Derived.RowKit
namespace Go.Proofs.Qxb6602105aDoor
open Go.Lib

def lowA (c : UInt8) : UInt8 := if 65 ≤ c.toNat ∧ c.toNat ≤ 90 then c + 32 else c

/-! ### the table -/
theorem lookup_in (T : Array CaseRow) (r : Int) : ∀ (f lo hi i : Nat), hi ≤ T.size → lookupIdx T r f lo hi = some i → i < T.size ∧ ((T.getD i (0, 0, 0, 0, 0)).1 : Int) ≤ r ∧ r ≤ ((T.getD i (0, 0, 0, 0, 0)).2.1 : Int)
  | 0, lo, hi, i, _, h => by simp [lookupIdx] at h
  | f + 1, lo, hi, i, hs, h => by
    unfold lookupIdx at h
    split at h
    · rename_i hlt
      split at h
      · rename_i hin
        cases h
        exact ⟨by omega, hin⟩
      · split at h
        · exact lookup_in T r f lo _ i (by omega) h
        · exact lookup_in T r f _ hi i hs h
    · cases h
/-- A row that takes no rune from 128 on into ASCII. -/
def rowOk (x : CaseRow) : Bool := decide (x.2.1 < 128) || decide (x.1 = 304 ∧ x.2.1 = 304) || decide (x.1 = 8490 ∧ x.2.1 = 8490) || (decide (128 ≤ x.1) && (decide (x.delta 1 > 1114111) || decide ((128 : Int) ≤ (x.1 : Int) + x.delta 1)))
theorem rows_ok : caseT.all rowOk = true := by decide +kernel
theorem lower_high (r : Int) (h0 : 128 ≤ r) (h1 : r ≠ 304) (h2 : r ≠ 8490) : 128 ≤ toLowerU r := by
  unfold toLowerU
  rw [if_neg (by omega)]
  unfold toR lookupGo
  cases hl : lookupIdx caseA r (caseA.size + 1) 0 caseA.size with
  | none => exact h0
  | some i =>
    obtain ⟨hi, hlo, hhi⟩ := lookup_in caseA r _ _ _ i (Nat.le_refl _) hl
    simp only [Option.map_some]
    have hm : caseA.getD i (0, 0, 0, 0, 0) ∈ caseT := by
      have hi' : i < caseT.length := by simpa [caseA] using hi
      have : caseA.getD i (0, 0, 0, 0, 0) = caseT[i] := by simp [caseA, hi']
      rw [this]
      exact List.getElem_mem _
    have hok := List.all_eq_true.1 rows_ok _ hm
    generalize caseA.getD i (0, 0, 0, 0, 0) = x at *
    unfold rowOk at hok
    unfold convertR
    simp only [Bool.or_eq_true, Bool.and_eq_true, decide_eq_true_eq] at hok
    rcases hok with ((hk | hk) | hk) | ⟨hk, hk2 | hk2⟩
    · omega
    · omega
    · omega
    · rw [if_pos hk2]; omega
    · split <;> omega
theorem lower_i : toLowerU 304 = 105 := by decide +kernel
theorem lower_k : toLowerU 8490 = 107 := by decide +kernel

/-! ### the head -/
theorem enc_ascii (c : UInt8) (h : c.toNat < 128) : encodeRune (c.toNat : Int) = [c] := by
  unfold encodeRune
  rw [encodeRuneZ_one (by omega) (by omega)]
  simp
theorem low_ascii (c : UInt8) (h : c.toNat < 128) : toLowerU (c.toNat : Int) = ((lowA c).toNat : Int) ∧ (lowA c).toNat < 128 := by
  unfold toLowerU lowA
  rw [if_pos (by omega)]
  by_cases hc : 65 ≤ c.toNat ∧ c.toNat ≤ 90
  · have e : (c + 32).toNat = c.toNat + 32 := by
      rw [UInt8.toNat_add]
      show (c.toNat + 32) % 256 = _
      omega
    rw [if_pos (by omega), if_pos hc, e]
    exact ⟨by omega, by omega⟩
  · rw [if_neg (by omega), if_neg hc]
    exact ⟨rfl, h⟩
theorem lowD_ascii (c : UInt8) (r : List UInt8) (h : c.toNat < 128) : toLowerD (c :: r) = lowA c :: toLowerD r := by
  unfold toLowerD
  rw [mapD_step _ _ (by simp), decodeL_ascii c r h]
  obtain ⟨h1, h2⟩ := low_ascii c h
  simp only [h1, List.drop_succ_cons, List.drop_zero]
  rw [if_pos (by omega), enc_ascii _ h2]
  rfl
theorem dec_i (r : List UInt8) : decodeL (196 :: 176 :: r) = (304, 2) := by
  rw [decodeL_N]
  simp [decodeN]
theorem dec_k (r : List UInt8) : decodeL (226 :: 132 :: 170 :: r) = (8490, 3) := by
  rw [decodeL_N]
  simp [decodeN]
theorem lowD_i (r : List UInt8) : toLowerD (196 :: 176 :: r) = 105 :: toLowerD r := by
  unfold toLowerD
  rw [mapD_step _ _ (by simp), dec_i]
  have : toLowerU ((304 : Nat) : Int) = 105 := lower_i
  simp only [this]
  rfl
theorem lowD_k (r : List UInt8) : toLowerD (226 :: 132 :: 170 :: r) = 107 :: toLowerD r := by
  unfold toLowerD
  rw [mapD_step _ _ (by simp), dec_k]
  have : toLowerU ((8490 : Nat) : Int) = 107 := lower_k
  simp only [this]
  rfl
theorem enc_high (r : Int) (h : 128 ≤ r) : ∃ b q, encodeRune r = b :: q ∧ 128 ≤ b.toNat := by
  unfold encodeRune
  by_cases h2 : r ≤ 2047
  · rw [encodeRuneZ_two h h2]
    refine ⟨_, _, rfl, ?_⟩
    have : (192 + r / 64).toNat < 256 := by omega
    simp only [Nat.toUInt8_eq, UInt8.toNat_ofNat']
    omega
  · by_cases h3 : (2048 ≤ r ∧ r < 55296) ∨ (57343 < r ∧ r ≤ 65535)
    · rw [encodeRuneZ_three h3]
      refine ⟨_, _, rfl, ?_⟩
      simp only [Nat.toUInt8_eq, UInt8.toNat_ofNat']
      omega
    · by_cases h4 : 65536 ≤ r ∧ r ≤ 1114111
      · rw [encodeRuneZ_four h4.1 h4.2]
        refine ⟨_, _, rfl, ?_⟩
        simp only [Nat.toUInt8_eq, UInt8.toNat_ofNat']
        omega
      · rw [encodeRuneZ_bad (by omega)]
        exact ⟨_, _, rfl, by decide⟩
theorem take_i : ∀ {n : Nat} {c : UInt8} {r : List UInt8}, [196, 176] = (c :: r).take n → c = 196 ∧ r.head? = some 176
  | 0, _, _, he => by simp at he
  | 1, _, _, he => by simp at he
  | n + 2, _, [], he => by simp at he
  | n + 2, _, y :: s, he => by
    simp only [List.take_succ_cons, List.cons.injEq] at he
    exact ⟨he.1.symm, by rw [← he.2.1]; rfl⟩
theorem take_k : ∀ {n : Nat} {c : UInt8} {r : List UInt8}, [226, 132, 170] = (c :: r).take n → c = 226 ∧ r.head? = some 132 ∧ r.tail.head? = some 170
  | 0, _, _, he => by simp at he
  | 1, _, _, he => by simp at he
  | n + 2, _, [], he => by simp at he
  | 2, _, y :: s, he => by simp at he
  | n + 3, _, [y], he => by simp at he
  | n + 3, _, y :: z :: s, he => by
    simp only [List.take_succ_cons, List.cons.injEq] at he
    exact ⟨he.1.symm, by rw [← he.2.1]; rfl, by rw [← he.2.2.1]; rfl⟩
theorem lowD_other (c : UInt8) (r : List UInt8) (h : 128 ≤ c.toNat) (hi : ¬ (c = 196 ∧ r.head? = some 176)) (hk : ¬ (c = 226 ∧ r.head? = some 132 ∧ r.tail.head? = some 170)) :
    ∃ b q, toLowerD (c :: r) = b :: q ∧ 128 ≤ b.toNat := by
  unfold toLowerD
  rw [mapD_step _ _ (by simp)]
  have hd : 128 ≤ (decodeL (c :: r)).1 ∧ (decodeL (c :: r)).1 ≠ 304 ∧ (decodeL (c :: r)).1 ≠ 8490 := by
    by_cases hv : (decodeL (c :: r)).1 = 65533 ∧ (decodeL (c :: r)).2 = 1
    · rw [hv.1]; omega
    · have he := encode_decode (c :: r) (by simp) hv
      have hw := decodeL_width (c :: r)
      refine ⟨?_, fun e => ?_, fun e => ?_⟩
      · apply Nat.le_of_not_lt
        intro hlt
        unfold encodeRune at he
        rw [encodeRuneZ_one (by omega) (by omega)] at he
        obtain ⟨n, hn⟩ : ∃ n, (decodeL (c :: r)).2 = n + 1 := ⟨(decodeL (c :: r)).2 - 1, by omega⟩
        rw [hn] at he
        simp only [List.map_cons, List.map_nil, List.take_succ_cons, List.cons.injEq] at he
        have := congrArg UInt8.toNat he.1
        simp only [Int.toNat_natCast, Nat.toUInt8_eq, UInt8.toNat_ofNat'] at this
        omega
      · rw [e] at he
        have e2 : encodeRune ((304 : Nat) : Int) = [196, 176] := by decide +kernel
        rw [e2] at he
        exact hi (take_i he)
      · rw [e] at he
        have e2 : encodeRune ((8490 : Nat) : Int) = [226, 132, 170] := by decide +kernel
        rw [e2] at he
        exact hk (take_k he)
  have hlow := lower_high ((decodeL (c :: r)).1 : Int) (by omega) (by omega) (by omega)
  rw [if_pos (by omega)]
  obtain ⟨b, q, e, hb⟩ := enc_high _ hlow
  rw [e]
  exact ⟨b, _, rfl, hb⟩
end Go.Proofs.Qxb6602105aDoor
