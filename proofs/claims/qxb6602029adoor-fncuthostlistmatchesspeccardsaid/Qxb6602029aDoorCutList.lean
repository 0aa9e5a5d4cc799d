/-
  ZZCutHostList at every input within the bounds: what it answers, as a plain function.
-/
import Derived.Test.Qxb6602029aDoorZz
import Derived.Test.Qxb6602029aDoorCutPlain
import Derived.Test.Qxb6602029aDoorClone
namespace Go.Proofs.Qxb6602029aDoor
open Go.RowKit Go.Maps Go.WideMaps

/-- The last of the first k pairs whose key is l: its flag; false where there is none. -/
def scanB (ks : List ByteArray) (fs : List Bool) (l : List UInt8) : Nat → Bool
  | 0 => false
  | k + 1 => if (ks.getD k ByteArray.empty).data.toList = l then fs.getD k false else scanB ks fs l k
theorem Dk_map (ks : List ByteArray) (fs : List Bool) : ∀ k, IsMap (Dk ks fs k)
  | 0 => ⟨[], rfl⟩
  | k + 1 => by
    obtain ⟨es, h⟩ := Dk_map ks fs k
    unfold Dk
    rw [h]
    exact ⟨_, rfl⟩
theorem Dk_at (ks : List ByteArray) (fs : List Bool) (l : List UInt8) : ∀ k, (Dk ks fs k).atKey (.string l) (.lit (.bool false)) = .lit (.bool (scanB ks fs l k))
  | 0 => rfl
  | k + 1 => by
    unfold Dk scanB
    by_cases h : (ks.getD k ByteArray.empty).data.toList = l
    · rw [h, if_pos rfl]; exact atKey_put_same (Dk_map ks fs k) (show WideAt.IsKeyLit (.string l) from trivial) _ _
    · rw [if_neg h, atKey_put_other (fun e => h (by cases e; rfl)), Dk_at ks fs l k]

def userOf (raw : ByteArray) : ByteArray := (afterOf raw).extract 0 (startOf (afterOf raw))
def hostsOf (raw : ByteArray) : ByteArray := (afterOf raw).extract (startOf (afterOf raw)) (endOf (afterOf raw))
def tailOf (raw : ByteArray) : ByteArray := (afterOf raw).extract (endOf (afterOf raw)) (afterOf raw).size
def restOf (raw : ByteArray) : ByteArray := schemeOf raw ++ ⟨#[58, 47, 47]⟩ ++ userOf raw ++ tailOf raw
def flagOf (ks : List ByteArray) (fs : List Bool) (raw : ByteArray) : Bool := foundOf raw && scanB ks fs (lowOf (schemeOf raw)).data.toList (min ks.length fs.length)
def ansOf (ks : List ByteArray) (fs : List Bool) (raw : ByteArray) : Value :=
  if flagOf ks fs raw then .tuple #[.string (restOf raw), .string (hostsOf raw), .bool true] else .tuple #[.string raw, .string ⟨#[]⟩, .bool false]

theorem sizes {raw : ByteArray} (hf : foundOf raw = true) : (schemeOf raw).size + 3 + (afterOf raw).size = raw.size := by
  obtain ⟨h, _⟩ := cut_parts hf
  rw [Lib.size_eq, Lib.size_eq, Lib.size_eq raw, h]
  simp [sepL]
  omega
theorem sizes2 (raw : ByteArray) : (userOf raw).size + (hostsOf raw).size + (tailOf raw).size = (afterOf raw).size := by
  have := congrArg List.length (three_pieces (afterOf raw))
  simp only [List.length_append, ← Lib.size_eq] at this
  exact this.symm
theorem rest_size {raw : ByteArray} (hf : foundOf raw = true) : (restOf raw).size + (hostsOf raw).size = raw.size := by
  have h1 := sizes hf
  have h2 := sizes2 raw
  unfold restOf
  rw [ByteArray.size_append, ByteArray.size_append, ByteArray.size_append]
  have : (⟨#[58, 47, 47]⟩ : ByteArray).size = 3 := rfl
  omega

theorem role23 (name raw : ByteArray) (ks : List ByteArray) (fs : List Bool) (b n : Nat) (w : World) (hs : raw.size ≤ 1048576) (he : Env w) (hD : Owns w b n (Dk ks fs (min ks.length fs.length))) :
    Calls Tryd.prog 23 #[.agg #[.string name, .map (some b)], .string raw] w fun e w' => e = .returned (ansOf ks fs raw) ∧ Below w.heap.size w w' := by
  cases hf : foundOf raw with
  | false =>
    have e : ansOf ks fs raw = .tuple #[.string raw, .string ⟨#[]⟩, .bool false] := by simp [ansOf, flagOf, hf]
    rw [e]
    exact role_nourl name raw b w hs he hf
  | true =>
    have h1 := sizes hf
    have h2 := sizes2 raw
    have := role_url name raw (schemeOf raw) (userOf raw) (hostsOf raw) (tailOf raw) b n _ _ w (by omega) (by omega) (by omega) he hD (Dk_at ks fs _ _) (fun w he => url_yes raw w hs he.mx hf (by omega))
    have e : ansOf ks fs raw = if scanB ks fs (lowOf (schemeOf raw)).data.toList (min ks.length fs.length) then .tuple #[.string (restOf raw), .string (hostsOf raw), .bool true] else .tuple #[.string raw, .string ⟨#[]⟩, .bool false] := by
      simp [ansOf, flagOf, hf]
    rw [e]
    exact this
theorem ans_tuple (ks : List ByteArray) (fs : List Bool) (raw : ByteArray) : ∃ x y z, ansOf ks fs raw = .tuple #[x, y, z] := by
  unfold ansOf
  split
  · exact ⟨_, _, _, rfl⟩
  · exact ⟨_, _, _, rfl⟩

theorem zz17 (name raw : ByteArray) (ks : List ByteArray) (fs : List Bool) (ka ha : Option Addr) (kc hc : Nat) (w : World) (hs : raw.size ≤ 1048576) (hkl : ks.length ≤ 1048576) (hfl : fs.length ≤ 1048576)
    (hks : SrcS w ka ks) (hfs : SrcB w ha fs) (hsz : ∀ i, i < ks.length → (ks.getD i ByteArray.empty).size ≤ maxLen) (he : Env w) :
    Calls Tryd.prog 17 #[.string name, .slice ka ks.length kc, .slice ha fs.length hc, .string raw] w fun e w' => e = .returned (ansOf ks fs raw) ∧ Below w.heap.size w w' := by
  by_cases hm : min ks.length fs.length = 0
  · refine zz_none name raw ka ha ks.length kc fs.length hc w _ hm (fun w' b n hb hD => role23 name raw ks fs b n w' hs (he.below hb) ?_) (ans_tuple _ _ _)
    rw [hm]
    exact hD
  · rcases hks with rfl | ⟨kb, ko, rfl, hk1, hk2⟩
    · simp at hm
    rcases hfs with rfl | ⟨hb, ho, rfl, hh1, hh2⟩
    · simp at hm
    exact zz_some name raw ks fs kb ko kc hb ho hc w _ hk1 hh1 hkl hfl hk2 hh2 hsz (fun w' b n hb hD => role23 name raw ks fs b n w' hs (he.below hb) hD) (ans_tuple _ _ _)

/-! ### the law 'idempotent' -/
theorem rest_again {raw : ByteArray} (hf : foundOf raw = true) : foundOf (restOf raw) = true ∧ schemeOf (restOf raw) = schemeOf raw ∧ restOf (restOf raw) = restOf raw ∧ hostsOf (restOf raw) = ⟨#[]⟩ := by
  have hd : (restOf raw).data.toList = (schemeOf raw).data.toList ++ sepL ++ ((userOf raw).data.toList ++ (tailOf raw).data.toList) := by
    unfold restOf
    rw [app_data, app_data, app_data, List.append_assoc]
    rfl
  obtain ⟨h1, h2, h3⟩ := cut_again hf hd
  obtain ⟨p1, p2, p3, p4⟩ := again_pieces (afterOf raw) (afterOf (restOf raw)) h3
  have hU : userOf (restOf raw) = userOf raw := by
    show (afterOf (restOf raw)).extract 0 (startOf (afterOf (restOf raw))) = _
    rw [p2, p3]; rfl
  have hT : tailOf (restOf raw) = tailOf raw := by
    show (afterOf (restOf raw)).extract (endOf (afterOf (restOf raw))) (afterOf (restOf raw)).size = _
    rw [p1, p4]; rfl
  refine ⟨h1, h2, ?_, ?_⟩
  · show schemeOf (restOf raw) ++ _ ++ userOf (restOf raw) ++ tailOf (restOf raw) = _
    rw [h2, hU, hT]; rfl
  · show (afterOf (restOf raw)).extract (startOf (afterOf (restOf raw))) (endOf (afterOf (restOf raw))) = _
    rw [p1, p2]
    apply ba_ext
    rw [Lib.extract_data]
    simp
theorem flag_found {ks : List ByteArray} {fs : List Bool} {raw : ByteArray} (h : flagOf ks fs raw = true) : foundOf raw = true := by
  unfold flagOf at h
  rw [Bool.and_eq_true] at h
  exact h.1
theorem flag_again {ks : List ByteArray} {fs : List Bool} {raw : ByteArray} (h : flagOf ks fs raw = true) : flagOf ks fs (restOf raw) = true := by
  have hf := flag_found h
  obtain ⟨h1, h2, _, _⟩ := rest_again hf
  unfold flagOf at h ⊢
  rw [h1, h2]
  rw [hf] at h
  exact h
end Go.Proofs.Qxb6602029aDoor
