/-
  THE PLAIN LAWS on the pieces of a URL: put together they are the URL; the URL without its hosts is cut into the same scheme, user info and rest, with no hosts.
-/
import Derived.Test.Qxb6602029aDoorRole
namespace Go.Proofs.Qxb6602029aDoor
open Go.RowKit

theorem ba_ext {a b : ByteArray} (h : a.data.toList = b.data.toList) : a = b := by rw [← Lib.mk_data a, ← Lib.mk_data b, h]
theorem app_data (a b : ByteArray) : (a ++ b).data.toList = a.data.toList ++ b.data.toList := by simp [ByteArray.data_append]
theorem mk_list (l : List UInt8) : (⟨l.toArray⟩ : ByteArray).data.toList = l := by simp
theorem ext_take (a : ByteArray) (k : Nat) : (a.extract 0 k).data.toList = a.data.toList.take k := by rw [Lib.extract_data]; simp

/-! ### where sep stands -/
theorem prefix_app (sub p x : List UInt8) (h : sub.length ≤ p.length) : sub.isPrefixOf (p ++ x) = sub.isPrefixOf p := by
  rw [Bool.eq_iff_iff, List.isPrefixOf_iff_prefix, List.isPrefixOf_iff_prefix]
  constructor
  · intro hp; exact List.prefix_of_prefix_length_le hp (List.prefix_append p x) h
  · intro hp; exact hp.trans (List.prefix_append p x)
theorem index_swap (s a x : List UInt8) (h : Lib.index (s ++ sepL ++ a) sepL = s.length) : Lib.index (s ++ sepL ++ x) sepL = s.length := by
  have hno : ∀ j, j < s.length → Lib.occAt (s ++ sepL ++ a) sepL j = false := by
    intro j hj
    cases hc : Lib.occAt (s ++ sepL ++ a) sepL j with
    | false => rfl
    | true =>
      exfalso
      -- a hit before the first: the index is no greater
      have : ∀ (l : List UInt8) (j : Nat), Lib.occAt l sepL j = true → j ≤ l.length → Lib.index l sepL ≤ j := by
        intro l
        induction l with
        | nil => intro j ho hj'; simp [sepL, Lib.occAt] at ho
        | cons b l ih =>
          intro j ho hj'
          unfold Lib.index
          split
          · omega
          · rename_i hp
            cases j with
            | zero => exact absurd (by simpa [Lib.occAt] using ho) hp
            | succ j =>
              have := ih j (by simpa [Lib.occAt] using ho) (by simpa using hj')
              split
              · omega
              · push_cast; omega
      have := this _ j hc (by simp; omega)
      omega
  refine Lib.index_first (by simp) ?_ (fun j hj => ?_)
  · simp [Lib.occAt, sepL]
  · have := hno j hj
    unfold Lib.occAt at this ⊢
    rw [List.append_assoc, List.drop_append_of_le_length (by omega), ← List.append_assoc] at this ⊢
    rw [prefix_app _ _ _ (by simp)] at this ⊢
    exact this
theorem cut_parts {raw : ByteArray} (h : foundOf raw = true) : raw.data.toList = (schemeOf raw).data.toList ++ sepL ++ (afterOf raw).data.toList ∧ Lib.index raw.data.toList sepL = (schemeOf raw).data.toList.length := by
  unfold foundOf schemeOf afterOf Lib.cut at *
  by_cases h0 : 0 ≤ Lib.index raw.data.toList sepL
  · rw [if_pos h0]
    simp only
    obtain ⟨i, hi⟩ := Int.eq_ofNat_of_zero_le h0
    rw [hi]
    simp only [Int.toNat_natCast]
    have hB := Lib.indexB_cases raw ⟨sepL.toArray⟩
    rcases hB with hB | ⟨i', hB, hroom⟩
    · have : Lib.index raw.data.toList sepL = -1 := hB
      omega
    · have e : Lib.index raw.data.toList sepL = i' := hB
      have : i' = i := by omega
      subst this
      have hs : (⟨sepL.toArray⟩ : ByteArray).size = 3 := rfl
      rw [hs, Lib.size_eq] at hroom
      refine ⟨?_, ?_⟩
      · -- the three bytes at i are sep
        have hocc : Lib.occAt raw.data.toList sepL i' = true := by
          have hx : ∀ (l : List UInt8) (i : Nat), Lib.index l sepL = i → Lib.occAt l sepL i = true := by
            intro l
            induction l with
            | nil => intro i hi; simp [Lib.index, sepL] at hi
            | cons b l ih =>
              intro i hi
              unfold Lib.index at hi
              split at hi
              · rename_i hp
                have : i = 0 := by omega
                subst this
                simpa [Lib.occAt] using hp
              · split at hi
                · omega
                · rename_i hm
                  have hge := Lib.index_ge l sepL
                  have hm' : Lib.index l sepL ≠ -1 := fun e => hm (beq_iff_eq.2 e)
                  obtain ⟨j, hj⟩ : ∃ j, i = j + 1 := ⟨i - 1, by omega⟩
                  subst hj
                  have := ih j (by push_cast at hi; omega)
                  simpa [Lib.occAt] using this
          exact hx _ _ e
        rw [Lib.occAt_iff_take _ _ _ (by rw [show sepL.length = 3 from rfl]; exact hroom)] at hocc
        have h3 := beq_iff_eq.1 hocc
        have hl3 : sepL.length = 3 := rfl
        rw [hl3] at h3 ⊢
        conv => lhs; rw [← List.take_append_drop i' raw.data.toList, ← List.take_append_drop 3 (raw.data.toList.drop i'), h3]
        rw [List.drop_drop, List.append_assoc]
      · rw [List.length_take]; omega
  · rw [if_neg h0] at h
    cases h
/-- Another text behind the same scheme and sep. -/
theorem cut_again {raw x : ByteArray} {y : List UInt8} (hf : foundOf raw = true) (hx : x.data.toList = (schemeOf raw).data.toList ++ sepL ++ y) : foundOf x = true ∧ schemeOf x = schemeOf raw ∧ (afterOf x).data.toList = y := by
  obtain ⟨h1, h2⟩ := cut_parts hf
  rw [h1] at h2
  have h3 := index_swap _ _ y h2
  rw [← hx] at h3
  have e : Lib.cut x.data.toList sepL = ((schemeOf raw).data.toList, y, true) := by
    unfold Lib.cut
    rw [h3, if_pos (by omega)]
    simp only [Int.toNat_natCast, hx]
    rw [List.append_assoc, List.take_left' rfl, ← List.append_assoc, List.drop_left' (by simp)]
  unfold foundOf
  refine ⟨by rw [e], ?_, ?_⟩
  · apply ba_ext
    show (Lib.cut x.data.toList sepL).1.toArray.toList = _
    rw [e]
  · show (Lib.cut x.data.toList sepL).2.1.toArray.toList = _
    rw [e]

/-! ### where the hosts stand -/
theorem indexAny_spec (cs : List UInt8) : ∀ l : List UInt8, (Lib.indexAny l cs = -1 ∧ Lib.NoAny l cs l.length) ∨ ∃ (i : Nat) (x : UInt8), Lib.indexAny l cs = i ∧ Lib.NoAny l cs i ∧ l[i]? = some x ∧ cs.contains x = true
  | [] => .inl ⟨rfl, Lib.NoAny.zero _ _⟩
  | b :: l => by
    unfold Lib.indexAny
    by_cases hb : cs.contains b = true
    · rw [if_pos hb]; exact .inr ⟨0, b, rfl, Lib.NoAny.zero _ _, rfl, hb⟩
    · rw [if_neg hb]
      have hb' : cs.contains b = false := by simpa using hb
      have step : ∀ i, Lib.NoAny l cs i → Lib.NoAny (b :: l) cs (i + 1) := fun i h j y hj hy => by
        cases j with
        | zero => simp at hy; subst hy; exact hb'
        | succ j => exact h j y (by omega) (by simpa using hy)
      rcases indexAny_spec cs l with ⟨h1, h2⟩ | ⟨i, x, h1, h2, h3, h4⟩
      · rw [h1]; exact .inl ⟨rfl, step _ h2⟩
      · rw [h1, if_neg (by rw [beq_iff_eq]; omega)]
        exact .inr ⟨i + 1, x, by push_cast; rfl, step i h2, by simpa using h3, h4⟩
theorem end_spec (a : ByteArray) : Lib.NoAny a.data.toList csL (endOf a) ∧ (endOf a = a.size ∨ ∃ x, a.data.toList[endOf a]? = some x ∧ csL.contains x = true) := by
  unfold endOf
  rcases indexAny_spec csL a.data.toList with ⟨h1, h2⟩ | ⟨i, x, h1, h2, h3, h4⟩
  · rw [h1, if_pos (by omega)]
    rw [← Lib.size_eq] at h2
    exact ⟨h2, .inl rfl⟩
  · rw [h1, if_neg (by omega), Int.toNat_natCast]
    exact ⟨h2, .inr ⟨x, h3, h4⟩⟩
theorem end_is (a : ByteArray) (e : Nat) (h1 : Lib.NoAny a.data.toList csL e) (h2 : e = a.size ∨ ∃ x, a.data.toList[e]? = some x ∧ csL.contains x = true) : endOf a = e := by
  unfold endOf
  rcases h2 with h2 | ⟨x, h2, h3⟩
  · subst h2
    rw [Lib.indexAny_none (by rw [← Lib.size_eq]; exact h1), if_pos (by omega)]
  · rw [Lib.indexAny_hit h1 h2 h3, if_neg (by omega), Int.toNat_natCast]
theorem bang (s : ByteArray) (i : Nat) (x : UInt8) (h : s.data.toList[i]? = some x) : s.data[i]! = x := by
  have := get_eq s i x h
  exact this
theorem take_getElem? (a : ByteArray) (k i : Nat) (h : i < k) : (a.extract 0 k).data.toList[i]? = a.data.toList[i]? := by
  rw [ext_take, List.getElem?_take, if_pos h]
theorem bang_take (a : ByteArray) (k m i : Nat) (h1 : i < k) (h2 : i < m) (h3 : i < a.size) : (a.extract 0 k).data[i]! = (a.extract 0 m).data[i]! := by
  have hl : i < a.data.toList.length := by rw [← Lib.size_eq]; exact h3
  rw [bang _ i (a.data.toList[i]) (by rw [take_getElem? a k i h1]; exact List.getElem?_eq_getElem hl), bang _ i (a.data.toList[i]) (by rw [take_getElem? a m i h2]; exact List.getElem?_eq_getElem hl)]
/-- The user info ends in its '@', or is empty. -/
theorem start_user (a : ByteArray) : (Lib.lastIndexByte (a.extract 0 (startOf a)) 64 + 1).toNat = startOf a := by
  have hle := start_le a
  have hel := end_le a
  have hsz : (a.extract 0 (endOf a)).size = endOf a := by rw [ByteArray.size_extract]; omega
  have hsz2 : (a.extract 0 (startOf a)).size = startOf a := by rw [ByteArray.size_extract]; omega
  rcases Lib.lastIndexByte_spec (a.extract 0 (endOf a)) 64 with ⟨h, _⟩ | ⟨i, hi, h, hc, _⟩
  · have e : startOf a = 0 := by unfold startOf; rw [h]; rfl
    unfold Lib.lastIndexByte
    rw [hsz2, e]
    rfl
  · have e : startOf a = i + 1 := by unfold startOf; rw [h]; omega
    rw [hsz] at hi
    unfold Lib.lastIndexByte
    rw [hsz2, e, Lib.lastIdx_hit _ _ _ (by rw [bang_take a (i + 1) (endOf a) i (by omega) hi (by omega)]; exact hc)]
    omega

/-- THE URL WITHOUT ITS HOSTS, behind the sep: the same user info, no hosts, the same rest. -/
theorem again_pieces (a b : ByteArray) (hb : b.data.toList = (a.extract 0 (startOf a)).data.toList ++ (a.extract (endOf a) a.size).data.toList) :
    endOf b = startOf a ∧ startOf b = startOf a ∧ b.extract 0 (startOf a) = a.extract 0 (startOf a) ∧ b.extract (startOf a) b.size = a.extract (endOf a) a.size := by
  have hle := start_le a
  have hel := end_le a
  have hU : (a.extract 0 (startOf a)).data.toList.length = startOf a := by rw [← Lib.size_eq, ByteArray.size_extract]; omega
  have hR : (a.extract (endOf a) a.size).data.toList = a.data.toList.drop (endOf a) := Lib.extract_to_end a _
  obtain ⟨n1, n2⟩ := end_spec a
  have e1 : endOf b = startOf a := by
    refine end_is b _ (fun j x hj hx => ?_) ?_
    · rw [hb, List.getElem?_append_left (by rw [hU]; exact hj), take_getElem? a _ j hj] at hx
      exact n1 j x (by omega) hx
    · rcases n2 with n2 | ⟨x, n2, n3⟩
      · left
        rw [Lib.size_eq b, hb, List.length_append, hU, hR, List.length_drop, ← Lib.size_eq]
        omega
      · right
        refine ⟨x, ?_, n3⟩
        rw [hb, List.getElem?_append_right (by rw [hU]; exact Nat.le_refl _), hU, Nat.sub_self, hR, List.getElem?_drop, Nat.add_zero]
        exact n2
  have e2 : b.extract 0 (startOf a) = a.extract 0 (startOf a) := by
    apply ba_ext
    rw [ext_take, hb, List.take_left' hU]
  have e3 : b.extract (startOf a) b.size = a.extract (endOf a) a.size := by
    apply ba_ext
    rw [Lib.extract_to_end, hb, List.drop_left' hU]
  refine ⟨e1, ?_, e2, e3⟩
  unfold startOf
  rw [e1, e2]
  exact start_user a
/-- The three pieces behind the sep. -/
theorem three_pieces (a : ByteArray) : a.data.toList = (a.extract 0 (startOf a)).data.toList ++ (a.extract (startOf a) (endOf a)).data.toList ++ (a.extract (endOf a) a.size).data.toList := by
  have hle := start_le a
  have hel := end_le a
  rw [Lib.extract_to_end, ext_take, Lib.extract_data]
  conv => lhs; rw [← List.take_append_drop (endOf a) a.data.toList, ← List.take_append_drop (startOf a) (a.data.toList.take (endOf a))]
  rw [List.take_take, Nat.min_eq_left hle, List.drop_take]
end Go.Proofs.Qxb6602029aDoor
