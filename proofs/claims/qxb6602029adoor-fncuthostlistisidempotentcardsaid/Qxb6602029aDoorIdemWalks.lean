/-
  THE WALK of FnCutHostListIsIdempotent.
-/
import Derived.Test.Qxb6602029aDoorCutList
namespace Go.Proofs.Qxb6602029aDoor
open Go.RowKit

theorem ret_bool {a b : Bool} (h : a = b) : Ending.returned (.bool a) = .returned (.bool b) := by rw [h]

set_option maxHeartbeats 2000000 in
theorem law7 (name raw : ByteArray) (ks : List ByteArray) (fs : List Bool) (ka ha : Option Addr) (kc hc : Nat) (w : World)
    (hks : SrcS w ka ks) (hfs : SrcB w ha fs) (hkn : ka = none → ks = []) (hhn : ha = none → fs = []) (hsz : ∀ i, i < ks.length → (ks.getD i ByteArray.empty).size ≤ maxLen) (he : Env w) :
    Calls Tryd.prog 7 #[.string name, .slice ka ks.length kc, .slice ha fs.length hc, .string raw] w fun e w' => e = .returned (.bool true) ∧ Below w.heap.size w w' := by
  have HKS := hide hks
  have HFS := hide hfs
  have HKN := hide hkn
  have HHN := hide hhn
  have HSZ := hide hsz
  have HE := hide he
  clear hks hfs hkn hhn hsz he
  go_enter Tryd.func7, Tryd.ntmps7
  go_wp2_with fail
  refine (zb21 name raw ks ka ha kc fs.length hc w (unhide HKS)).mono ?_
  rintro e w1 ⟨b, rfl, rfl, hbd⟩
  cases b
  · go_wp2_with fail
    go_ret
    exact ⟨rfl, Below.refl _ _⟩
  obtain ⟨h1, h2, h3, h4⟩ := hbd rfl
  clear hbd
  go_wp2_with fail
  refine (tb14 name raw ks ka ha kc fs.length hc w1 (unhide HKS) h1 h2 h3 h4).mono ?_
  rintro e w2 ⟨b, rfl, rfl⟩
  cases b
  case true =>
    go_wp2_with fail
    go_ret
    exact ⟨rfl, Below.refl _ _⟩
  go_wp2_with fail
  refine (cl15 ks ka kc w2 h2 (unhide HKN) (unhide HKS)).mono ?_
  rintro e w3 ⟨ka3, kc3, rfl, hks3, hb3⟩
  have HKS3 := hide hks3
  have HB3 := hide hb3
  clear hks3 hb3
  go_wp2_with fail
  refine (cl16 fs ha hc w3 h3 (unhide HHN) ((unhide HFS).below (unhide HB3))).mono ?_
  rintro e w4 ⟨ha4, hc4, rfl, hfs4, hb4⟩
  have HKS4 := hide ((unhide HKS3).below hb4)
  have HB4 := hide ((unhide HB3).trans (hb4.mono (unhide HB3).size))
  have HFS4 := hide hfs4
  have HE4 := hide ((unhide HE).below (unhide HB4))
  clear hb4 hfs4
  go_wp2_with fail
  refine (zz17 name raw ks fs ka3 ha4 kc3 hc4 w4 h4 h2 h3 (unhide HKS4) (unhide HFS4) (unhide HSZ) (unhide HE4)).mono ?_
  rintro e w5 ⟨rfl, hb5⟩
  have HB5 := hide ((unhide HB4).trans (hb5.mono (unhide HB4).size))
  have HKS5 := hide ((unhide HKS4).below hb5)
  have HFS5 := hide ((unhide HFS4).below hb5)
  have HE5 := hide ((unhide HE4).below hb5)
  clear hb5
  cases hfl : flagOf ks fs raw with
  | false =>
    have ea : ansOf ks fs raw = .tuple #[.string raw, .string ⟨#[]⟩, .bool false] := by simp [ansOf, hfl]
    rw [ea]
    clear ea
    go_wp2_with fail
    go_ret
    exact ⟨ret_bool (by simp), unhide HB5⟩
  | true =>
    have ea : ansOf ks fs raw = .tuple #[.string (restOf raw), .string (hostsOf raw), .bool true] := by simp [ansOf, hfl]
    rw [ea]
    clear ea
    have hf := flag_found hfl
    have hrs := rest_size hf
    have ha2 : Hid (ansOf ks fs (restOf raw) = .tuple #[.string (restOf raw), .string ⟨#[]⟩, .bool true]) := by
      refine hide ?_
      obtain ⟨_, _, r1, r2⟩ := rest_again hf
      simp only [ansOf, flag_again hfl, r1, r2, if_true]
    clear hfl hf
    go_wp2_with fail
    refine (zz17 name (restOf raw) ks fs ka3 ha4 kc3 hc4 w5 (by omega) h2 h3 (unhide HKS5) (unhide HFS5) (unhide HSZ) (unhide HE5)).mono ?_
    rintro e w6 ⟨rfl, hb6⟩
    rw [unhide ha2]
    have HB6 := hide ((unhide HB5).trans (hb6.mono (unhide HB5).size))
    clear hb6
    go_wp2_with fail
    go_ret
    exact ⟨ret_bool (by simp), unhide HB6⟩
end Go.Proofs.Qxb6602029aDoor
