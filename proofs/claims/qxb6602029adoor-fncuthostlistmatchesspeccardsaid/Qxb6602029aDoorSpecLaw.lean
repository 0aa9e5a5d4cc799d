/-
  THE LAW FnCutHostListMatchesSpec where there are pairs and the URL has its sep; then the whole law.
-/
import Derived.Test.Qxb6602029aDoorSpecWalks
namespace Go.Proofs.Qxb6602029aDoor
open Go.RowKit

set_option maxHeartbeats 4000000 in
theorem law6_pairs_false (name raw : ByteArray) (ks : List ByteArray) (fs : List Bool) (ka ha : Option Addr) (kc hc : Nat) (w : World)
    (hks : SrcS w ka ks) (hfs : SrcB w ha fs) (hkn : ka = none → ks = []) (hhn : ha = none → fs = []) (hsz : ∀ i, i < ks.length → (ks.getD i ByteArray.empty).size ≤ maxLen) (he : Env w) (hf : foundOf raw = true) (hm : 0 < min ks.length fs.length) (hfl : scanB ks fs (lowOf (schemeOf raw)).data.toList (min ks.length fs.length) = false) :
    Calls Tryd.prog 6 #[.string name, .slice ka ks.length kc, .slice ha fs.length hc, .string raw] w fun e w' => e = .returned (.bool true) ∧ Below w.heap.size w w' := by
  have HKS := hide hks
  have HFS := hide hfs
  have HKN := hide hkn
  have HHN := hide hhn
  have HSZ := hide hsz
  have HE := hide he
  clear hks hfs hkn hhn hsz he
  go_enter Tryd.func6, Tryd.ntmps6
  go_wp2_with fail
  refine (zb13 name raw ks ka ha kc fs.length hc w (unhide HKS)).mono ?_
  rintro e w1 ⟨b, rfl, rfl, hbd⟩
  cases b
  · go_wp2_with fail
    go_ret
    exact ⟨rfl, Below.refl _ _⟩
  obtain ⟨h1, h2, h3, h4⟩ := hbd rfl
  clear hbd
  go_wp2_with fail
  refine (tb14 name raw ks ka ha kc fs.length hc w1 (unhide HKS) h1 h2 h3 h4).mono ?_
  rintro e w2 ⟨b, rfl, rfl⟩
  cases b
  case true =>
    go_wp2_with fail
    go_ret
    exact ⟨rfl, Below.refl _ _⟩
  go_wp2_with fail
  refine (cl15 ks ka kc w2 h2 (unhide HKN) (unhide HKS)).mono ?_
  rintro e w3 ⟨ka3, kc3, rfl, hks3, hb3⟩
  have HKS3 := hide hks3
  have HB3 := hide hb3
  clear hks3 hb3
  go_wp2_with fail
  refine (cl16 fs ha hc w3 h3 (unhide HHN) ((unhide HFS).below (unhide HB3))).mono ?_
  rintro e w4 ⟨ha4, hc4, rfl, hfs4, hb4⟩
  have HKS4 := hide ((unhide HKS3).below hb4)
  have HB4 := hide ((unhide HB3).trans (hb4.mono (unhide HB3).size))
  have HFS4 := hide hfs4
  have HE4 := hide ((unhide HE).below (unhide HB4))
  clear hb4 hfs4
  go_wp2_with fail
  refine (zz17 name raw ks fs ka3 ha4 kc3 hc4 w4 h4 h2 h3 (unhide HKS4) (unhide HFS4) (unhide HSZ) (unhide HE4)).mono ?_
  rintro e w5 ⟨rfl, hb5⟩
  have HB5 := hide ((unhide HB4).trans (hb5.mono (unhide HB4).size))
  have HKS5 := hide ((unhide HKS4).below hb5)
  have HFS5 := hide ((unhide HFS4).below hb5)
  have HE5 := hide ((unhide HE4).below hb5)
  clear hb5 HKS HFS HKN HHN HE HKS3 HB3 HKS4 HB4 HFS4 HE4
  obtain ⟨kb, ko, rfl, hkb, hkc⟩ : ∃ b o, ka3 = some ⟨b, o, none⟩ ∧ b < w5.heap.size ∧ ∀ i, i < ks.length → w5.cell? ⟨b, o + i, none⟩ = some (.string (ks.getD i ByteArray.empty)) := by
    rcases unhide HKS5 with h | h
    · rw [h] at hm; simp at hm
    · exact h
  obtain ⟨fb, fo, rfl, hfb, hfc⟩ : ∃ b o, ha4 = some ⟨b, o, none⟩ ∧ b < w5.heap.size ∧ ∀ i, i < fs.length → w5.cell? ⟨b, o + i, none⟩ = some (.bool (fs.getD i false)) := by
    rcases unhide HFS5 with h | h
    · rw [h] at hm; simp at hm
    · exact h
  have HKC := hide hkc
  have HFC := hide hfc
  clear hkc hfc HKS5 HFS5
  have ea : ansOf ks fs raw = .tuple #[.string raw, .string ⟨#[]⟩, .bool false] := by simp [ansOf, flagOf, hf, hfl]
  rw [ea]
  clear ea
  obtain ⟨hix, hex, h3s⟩ := index_yes hf
  have HIX := hide hix
  have HEX := hide hex
  clear hix hex
  go_wp2_with fail
  refine (sep18 raw _ h4).mono ?_
  rintro e w6 ⟨rfl, rfl⟩
  rw [unhide HIX]
  go_wp2_with fail
  rw [unhide HEX]
  refine (low19 (schemeOf raw) _ (by omega) (unhide HE5)).mono ?_
  rintro e w7 ⟨rfl, hb7⟩
  have HB7 := hide ((unhide HB5).trans (hb7.mono (unhide HB5).size))
  have HE7 := hide ((unhide HE5).below hb7)
  have HKC7 := hide (fun i hi => (hb7.cell (p := ⟨kb, ko + i, none⟩) hkb).trans (unhide HKC i hi))
  have HFC7 := hide (fun i hi => (hb7.cell (p := ⟨fb, fo + i, none⟩) hfb).trans (unhide HFC i hi))
  clear hb7 HKC HFC HE5 HB5
  generalize lowOf (schemeOf raw) = low at *
  go_wp2_with fail
  go_loop [12, 15] (fun l j => ∃ k : Nat, k ≤ min ks.length fs.length ∧ j = .int .i64 k ∧ l = .bool (scanB ks fs low.data.toList k)) (fun _ j => min ks.length fs.length - (intOf j).toNat)
  case atStart => exact ⟨0, Nat.zero_le _, rfl, rfl⟩
  case round =>
    obtain ⟨k, hk, rfl, rfl⟩ := hrel
    by_cases hlt : k < min ks.length fs.length
    · have hk1 : k < ks.length := by omega
      have hk2 : k < fs.length := by omega
      have ck := unhide HKC7 k hk1
      have cf := unhide HFC7 k hk2
      have HST := hide (show scanB ks fs low.data.toList (k + 1) = if (ks.getD k ByteArray.empty).data.toList = low.data.toList then fs.getD k false else scanB ks fs low.data.toList k from rfl)
      generalize ks.getD k ByteArray.empty = key at *
      generalize fs.getD k false = flag at *
      cases hq : (key.toList == low.toList)
      · have HQ : Hid (¬ key.data.toList = low.data.toList) := hide fun e => by rw [Lib.toList_data, Lib.toList_data, e] at hq; simp at hq
        go_wp2_with fail
        go_round
        case rel => exact ⟨k + 1, by omega, by go_num, by rw [unhide HST, if_neg (unhide HQ)]⟩
        case measure => simp [intOf]; omega
      · have HQ : Hid (key.data.toList = low.data.toList) := hide (by rw [Lib.toList_data, Lib.toList_data] at hq; exact beq_iff_eq.1 hq)
        go_wp2_with fail
        go_round
        case rel => exact ⟨k + 1, by omega, by go_num, by rw [unhide HST, if_pos (unhide HQ)]⟩
        case measure => simp [intOf]; omega
    · obtain rfl : k = min ks.length fs.length := by omega
      rw [hfl]
      by_cases hk1 : min ks.length fs.length < ks.length
      · have hk2 : ¬ ((min ks.length fs.length : Nat) : Int) < (fs.length : Int) := by omega
        have hk2' : decide (((min ks.length fs.length : Nat) : Int) < (fs.length : Int)) = false := decide_eq_false hk2
        clear hfl
        generalize min ks.length fs.length = m at *
        go_wp2_with fail
        go_ret
        exact ⟨ret_bool (by simp), unhide HB7⟩
      · have hk2 : ¬ ((min ks.length fs.length : Nat) : Int) < (ks.length : Int) := by omega
        have hk2' : decide (((min ks.length fs.length : Nat) : Int) < (ks.length : Int)) = false := decide_eq_false hk2
        clear hfl
        generalize min ks.length fs.length = m at *
        go_wp2_with fail
        go_ret
        exact ⟨ret_bool (by simp), unhide HB7⟩


set_option maxHeartbeats 4000000 in
theorem law6_pairs_true (name raw : ByteArray) (ks : List ByteArray) (fs : List Bool) (ka ha : Option Addr) (kc hc : Nat) (w : World)
    (hks : SrcS w ka ks) (hfs : SrcB w ha fs) (hkn : ka = none → ks = []) (hhn : ha = none → fs = []) (hsz : ∀ i, i < ks.length → (ks.getD i ByteArray.empty).size ≤ maxLen) (he : Env w) (hf : foundOf raw = true) (hm : 0 < min ks.length fs.length) (hfl : scanB ks fs (lowOf (schemeOf raw)).data.toList (min ks.length fs.length) = true) :
    Calls Tryd.prog 6 #[.string name, .slice ka ks.length kc, .slice ha fs.length hc, .string raw] w fun e w' => e = .returned (.bool true) ∧ Below w.heap.size w w' := by
  have HKS := hide hks
  have HFS := hide hfs
  have HKN := hide hkn
  have HHN := hide hhn
  have HSZ := hide hsz
  have HE := hide he
  clear hks hfs hkn hhn hsz he
  go_enter Tryd.func6, Tryd.ntmps6
  go_wp2_with fail
  refine (zb13 name raw ks ka ha kc fs.length hc w (unhide HKS)).mono ?_
  rintro e w1 ⟨b, rfl, rfl, hbd⟩
  cases b
  · go_wp2_with fail
    go_ret
    exact ⟨rfl, Below.refl _ _⟩
  obtain ⟨h1, h2, h3, h4⟩ := hbd rfl
  clear hbd
  go_wp2_with fail
  refine (tb14 name raw ks ka ha kc fs.length hc w1 (unhide HKS) h1 h2 h3 h4).mono ?_
  rintro e w2 ⟨b, rfl, rfl⟩
  cases b
  case true =>
    go_wp2_with fail
    go_ret
    exact ⟨rfl, Below.refl _ _⟩
  go_wp2_with fail
  refine (cl15 ks ka kc w2 h2 (unhide HKN) (unhide HKS)).mono ?_
  rintro e w3 ⟨ka3, kc3, rfl, hks3, hb3⟩
  have HKS3 := hide hks3
  have HB3 := hide hb3
  clear hks3 hb3
  go_wp2_with fail
  refine (cl16 fs ha hc w3 h3 (unhide HHN) ((unhide HFS).below (unhide HB3))).mono ?_
  rintro e w4 ⟨ha4, hc4, rfl, hfs4, hb4⟩
  have HKS4 := hide ((unhide HKS3).below hb4)
  have HB4 := hide ((unhide HB3).trans (hb4.mono (unhide HB3).size))
  have HFS4 := hide hfs4
  have HE4 := hide ((unhide HE).below (unhide HB4))
  clear hb4 hfs4
  go_wp2_with fail
  refine (zz17 name raw ks fs ka3 ha4 kc3 hc4 w4 h4 h2 h3 (unhide HKS4) (unhide HFS4) (unhide HSZ) (unhide HE4)).mono ?_
  rintro e w5 ⟨rfl, hb5⟩
  have HB5 := hide ((unhide HB4).trans (hb5.mono (unhide HB4).size))
  have HKS5 := hide ((unhide HKS4).below hb5)
  have HFS5 := hide ((unhide HFS4).below hb5)
  have HE5 := hide ((unhide HE4).below hb5)
  clear hb5 HKS HFS HKN HHN HE HKS3 HB3 HKS4 HB4 HFS4 HE4
  obtain ⟨kb, ko, rfl, hkb, hkc⟩ : ∃ b o, ka3 = some ⟨b, o, none⟩ ∧ b < w5.heap.size ∧ ∀ i, i < ks.length → w5.cell? ⟨b, o + i, none⟩ = some (.string (ks.getD i ByteArray.empty)) := by
    rcases unhide HKS5 with h | h
    · rw [h] at hm; simp at hm
    · exact h
  obtain ⟨fb, fo, rfl, hfb, hfc⟩ : ∃ b o, ha4 = some ⟨b, o, none⟩ ∧ b < w5.heap.size ∧ ∀ i, i < fs.length → w5.cell? ⟨b, o + i, none⟩ = some (.bool (fs.getD i false)) := by
    rcases unhide HFS5 with h | h
    · rw [h] at hm; simp at hm
    · exact h
  have HKC := hide hkc
  have HFC := hide hfc
  clear hkc hfc HKS5 HFS5
  have ea : ansOf ks fs raw = .tuple #[.string (restOf raw), .string (hostsOf raw), .bool true] := by simp [ansOf, flagOf, hf, hfl]
  rw [ea]
  clear ea
  have hru := rest_ge (raw := raw)
  have hrs := rest_size hf
  have hsz2 := sizes2 raw
  have hszz := sizes hf
  have HPB := hide (put_back hf)
  have H20 : Hid (∀ w, Env w → Calls Tryd.prog 20 #[.string raw] w fun e w' => e = .returned (.tuple #[.string (schemeOf raw), .string (userOf raw), .string (hostsOf raw), .string (tailOf raw), .bool true]) ∧ Below w.heap.size w w') := hide fun w he => url20 raw w h4 he.mx hf (by omega)
  obtain ⟨hix, hex, h3s⟩ := index_yes hf
  have HIX := hide hix
  have HEX := hide hex
  clear hix hex
  go_wp2_with fail
  refine (sep18 raw _ h4).mono ?_
  rintro e w6 ⟨rfl, rfl⟩
  rw [unhide HIX]
  go_wp2_with fail
  rw [unhide HEX]
  refine (low19 (schemeOf raw) _ (by omega) (unhide HE5)).mono ?_
  rintro e w7 ⟨rfl, hb7⟩
  have HB7 := hide ((unhide HB5).trans (hb7.mono (unhide HB5).size))
  have HE7 := hide ((unhide HE5).below hb7)
  have HKC7 := hide (fun i hi => (hb7.cell (p := ⟨kb, ko + i, none⟩) hkb).trans (unhide HKC i hi))
  have HFC7 := hide (fun i hi => (hb7.cell (p := ⟨fb, fo + i, none⟩) hfb).trans (unhide HFC i hi))
  clear hb7 HKC HFC HE5 HB5
  generalize lowOf (schemeOf raw) = low at *
  go_wp2_with fail
  go_loop [12, 15] (fun l j => ∃ k : Nat, k ≤ min ks.length fs.length ∧ j = .int .i64 k ∧ l = .bool (scanB ks fs low.data.toList k)) (fun _ j => min ks.length fs.length - (intOf j).toNat)
  case atStart => exact ⟨0, Nat.zero_le _, rfl, rfl⟩
  case round =>
    obtain ⟨k, hk, rfl, rfl⟩ := hrel
    by_cases hlt : k < min ks.length fs.length
    · have hk1 : k < ks.length := by omega
      have hk2 : k < fs.length := by omega
      have ck := unhide HKC7 k hk1
      have cf := unhide HFC7 k hk2
      have HST := hide (show scanB ks fs low.data.toList (k + 1) = if (ks.getD k ByteArray.empty).data.toList = low.data.toList then fs.getD k false else scanB ks fs low.data.toList k from rfl)
      generalize ks.getD k ByteArray.empty = key at *
      generalize fs.getD k false = flag at *
      cases hq : (key.toList == low.toList)
      · have HQ : Hid (¬ key.data.toList = low.data.toList) := hide fun e => by rw [Lib.toList_data, Lib.toList_data, e] at hq; simp at hq
        go_wp2_with fail
        go_round
        case rel => exact ⟨k + 1, by omega, by go_num, by rw [unhide HST, if_neg (unhide HQ)]⟩
        case measure => simp [intOf]; omega
      · have HQ : Hid (key.data.toList = low.data.toList) := hide (by rw [Lib.toList_data, Lib.toList_data] at hq; exact beq_iff_eq.1 hq)
        go_wp2_with fail
        go_round
        case rel => exact ⟨k + 1, by omega, by go_num, by rw [unhide HST, if_pos (unhide HQ)]⟩
        case measure => simp [intOf]; omega
    · obtain rfl : k = min ks.length fs.length := by omega
      rw [hfl]
      by_cases hk1 : min ks.length fs.length < ks.length
      · have hk2 : ¬ ((min ks.length fs.length : Nat) : Int) < (fs.length : Int) := by omega
        have hk2' : decide (((min ks.length fs.length : Nat) : Int) < (fs.length : Int)) = false := decide_eq_false hk2
        clear hfl
        generalize min ks.length fs.length = m at *
        go_wp2_with fail
        refine (unhide H20 _ (unhide HE7)).mono ?_
        rintro e w8 ⟨rfl, hb8⟩
        have HB8 := hide ((unhide HB7).trans (hb8.mono (unhide HB7).size))
        clear hb8
        generalize schemeOf raw = S at *
        generalize userOf raw = U at *
        generalize hostsOf raw = T at *
        generalize tailOf raw = R at *
        generalize restOf raw = X at *
        have hTT : (!(T.toList == T.toList)) = false := by simp
        go_wp2_with fail
        rw [show ((S.size : Int) + 3 + (U.size : Int)) = ((S.size + 3 + U.size : Nat) : Int) by omega]
        have hnX : S.size + 3 + U.size ≤ X.size := by omega
        generalize S.size + 3 + U.size = n at *
        have hnX' : (n : Int) ≤ (X.size : Int) := by omega
        have e1 := fun w => run_string_add_sum (P := Tryd.prog) w (X.extract 0 n) T (by rw [ByteArray.size_extract]; omega)
        have e2 := fun w => run_string_add_sum (P := Tryd.prog) w (X.extract 0 n ++ T) (X.extract n X.size) (by rw [ByteArray.size_append, ByteArray.size_extract, ByteArray.size_extract]; omega)
        clear hk hlt hk1 hk2 hk2' h1 h2 h3 hTT
        go_quiet (fail)
        go_wp2_with fail
        go_ret
        exact ⟨ret_bool (by rw [unhide HPB]; simp), below_drewN (unhide HB8) _⟩
      · have hk2 : ¬ ((min ks.length fs.length : Nat) : Int) < (ks.length : Int) := by omega
        have hk2' : decide (((min ks.length fs.length : Nat) : Int) < (ks.length : Int)) = false := decide_eq_false hk2
        clear hfl
        generalize min ks.length fs.length = m at *
        go_wp2_with fail
        refine (unhide H20 _ (unhide HE7)).mono ?_
        rintro e w8 ⟨rfl, hb8⟩
        have HB8 := hide ((unhide HB7).trans (hb8.mono (unhide HB7).size))
        clear hb8
        generalize schemeOf raw = S at *
        generalize userOf raw = U at *
        generalize hostsOf raw = T at *
        generalize tailOf raw = R at *
        generalize restOf raw = X at *
        have hTT : (!(T.toList == T.toList)) = false := by simp
        go_wp2_with fail
        rw [show ((S.size : Int) + 3 + (U.size : Int)) = ((S.size + 3 + U.size : Nat) : Int) by omega]
        have hnX : S.size + 3 + U.size ≤ X.size := by omega
        generalize S.size + 3 + U.size = n at *
        have hnX' : (n : Int) ≤ (X.size : Int) := by omega
        have e1 := fun w => run_string_add_sum (P := Tryd.prog) w (X.extract 0 n) T (by rw [ByteArray.size_extract]; omega)
        have e2 := fun w => run_string_add_sum (P := Tryd.prog) w (X.extract 0 n ++ T) (X.extract n X.size) (by rw [ByteArray.size_append, ByteArray.size_extract, ByteArray.size_extract]; omega)
        clear hk hlt hk1 hk2 hk2' h1 h2 h3 hTT
        go_quiet (fail)
        go_wp2_with fail
        go_ret
        exact ⟨ret_bool (by rw [unhide HPB]; simp), below_drewN (unhide HB8) _⟩

/-- THE WHOLE LAW. -/
theorem law6 (name raw : ByteArray) (ks : List ByteArray) (fs : List Bool) (ka ha : Option Addr) (kc hc : Nat) (w : World)
    (hks : SrcS w ka ks) (hfs : SrcB w ha fs) (hkn : ka = none → ks = []) (hhn : ha = none → fs = []) (hsz : ∀ i, i < ks.length → (ks.getD i ByteArray.empty).size ≤ maxLen) (he : Env w) :
    Calls Tryd.prog 6 #[.string name, .slice ka ks.length kc, .slice ha fs.length hc, .string raw] w fun e w' => e = .returned (.bool true) ∧ Below w.heap.size w w' := by
  cases hf : foundOf raw with
  | false => exact law6_nourl name raw ks fs ka ha kc hc w hks hfs hkn hhn hsz he hf
  | true =>
    by_cases hm : min ks.length fs.length = 0
    · exact law6_empty name raw ks fs ka ha kc hc w hks hfs hkn hhn hsz he hf hm
    · cases hfl : scanB ks fs (lowOf (schemeOf raw)).data.toList (min ks.length fs.length) with
      | false => exact law6_pairs_false name raw ks fs ka ha kc hc w hks hfs hkn hhn hsz he hf (by omega) hfl
      | true => exact law6_pairs_true name raw ks fs ka ha kc hc w hks hfs hkn hhn hsz he hf (by omega) hfl
end Go.Proofs.Qxb6602029aDoor
