/-
  THE WALK of FnCutHostListMatchesSpec: sepAt, ZZCutURL, the linear scan, the putting back.
-/
import Derived.Test.Qxb6602029aDoorCutList
namespace Go.Proofs.Qxb6602029aDoor
open Go.RowKit

theorem ret_bool {a b : Bool} (h : a = b) : Ending.returned (.bool a) = .returned (.bool b) := by rw [h]

/-! ### sepAt -/
def sepB (s : ByteArray) (i : Nat) : Bool := Lib.occAt s.data.toList sepL i
theorem drop_at (s : ByteArray) (i : Nat) (h : i < s.size) : s.data.toList.drop i = s[i] :: s.data.toList.drop (i + 1) := by
  have hl : i < s.data.toList.length := by rw [← Lib.size_eq]; exact h
  rw [List.drop_eq_getElem_cons hl]
  rfl
theorem byte_eq {x : UInt8} {n : Nat} (hn : n < 256) : (((x.toNat : Int) == (n : Int))) = (x == UInt8.ofNat n) := by
  rw [Bool.eq_iff_iff, beq_iff_eq, beq_iff_eq]
  constructor
  · intro h
    apply UInt8.toNat_inj.1
    rw [UInt8.toNat_ofNat']
    omega
  · intro h
    rw [h, UInt8.toNat_ofNat']
    omega
theorem sep_at (s : ByteArray) (i : Nat) (h : i + 2 < s.size) : sepB s i = ((((s[i].toNat : Int) == 58) && ((s[i + 1].toNat : Int) == 47)) && ((s[i + 2].toNat : Int) == 47)) := by
  unfold sepB Lib.occAt
  rw [drop_at s i (by omega), drop_at s (i + 1) (by omega), drop_at s (i + 1 + 1) (by omega)]
  have h1 := byte_eq (x := s[i]) (n := 58) (by omega)
  have h2 := byte_eq (x := s[i + 1]) (n := 47) (by omega)
  have h3 := byte_eq (x := s[i + 2]) (n := 47) (by omega)
  have h1' : (((s[i].toNat : Int) == 58)) = (s[i] == 58) := h1
  have h2' : (((s[i + 1].toNat : Int) == 47)) = (s[i + 1] == 47) := h2
  have h3' : (((s[i + 2].toNat : Int) == 47)) = (s[i + 2] == 47) := h3
  rw [h1', h2', h3']
  simp only [sepL, List.isPrefixOf, Bool.and_true]
  rw [Bool.eq_iff_iff]
  simp only [Bool.and_eq_true, beq_iff_eq]
  constructor
  · rintro ⟨a, b, c⟩; exact ⟨⟨a.symm, b.symm⟩, c.symm⟩
  · rintro ⟨⟨a, b⟩, c⟩; exact ⟨a.symm, b.symm, c.symm⟩

set_option maxHeartbeats 1000000 in
theorem sep18 (s : ByteArray) (w : World) (hs : s.size ≤ 1048576) :
    Calls Tryd.prog 18 #[.string s] w fun e w' => e = .returned (.int .i64 (Lib.index s.data.toList sepL)) ∧ w' = w := by
  go_enter Tryd.func18, Tryd.ntmps18
  go_wp2_with fail
  go_loop [3] (fun i => ∃ k : Nat, k ≤ s.size ∧ i = .int .i64 k ∧ Lib.NoOcc s.data.toList sepL k) (fun i => s.size + 1 - (intOf i).toNat)
  case atStart => exact ⟨0, Nat.zero_le _, rfl, Lib.NoOcc.zero _ _⟩
  case round =>
    obtain ⟨k, hk, rfl, hno⟩ := hrel
    have HN := hide hno
    clear hno
    by_cases hlt : k + 2 < s.size
    · have hsa := sep_at s k hlt
      cases h1 : ((s[k].toNat : Int) == 58)
      · rw [h1, Bool.false_and, Bool.false_and] at hsa
        have HS := hide hsa
        clear hsa
        go_wp2_with fail
        go_round
        case rel => exact ⟨k + 1, by omega, by go_num, (unhide HN).succ (unhide HS)⟩
        case measure => simp [intOf]; omega
      · cases h2 : ((s[k + 1].toNat : Int) == 47)
        · rw [h2, Bool.and_false, Bool.false_and] at hsa
          have HS := hide hsa
          clear hsa
          go_wp2_with fail
          go_round
          case rel => exact ⟨k + 1, by omega, by go_num, (unhide HN).succ (unhide HS)⟩
          case measure => simp [intOf]; omega
        · cases h3 : ((s[k + 2].toNat : Int) == 47)
          · rw [h3, Bool.and_false] at hsa
            have HS := hide hsa
            clear hsa
            go_wp2_with fail
            go_round
            case rel => exact ⟨k + 1, by omega, by go_num, (unhide HN).succ (unhide HS)⟩
            case measure => simp [intOf]; omega
          · rw [h1, h2, h3] at hsa
            have HS := hide hsa
            clear hsa
            go_wp2_with fail
            go_ret
            exact ⟨by rw [Lib.index_hit (unhide HN) (by rw [← Lib.size_eq]; omega) (unhide HS)]; rfl, rfl⟩
    · have hlt' : ¬ ((k : Int) + 3 ≤ (s.size : Int)) := by omega
      go_wp2_with fail
      go_ret
      exact ⟨by rw [Lib.index_past (by simp [sepL]) (unhide HN) (by rw [← Lib.size_eq]; simp [sepL]; omega)]; rfl, rfl⟩
/-! ### ZZCutURL -/
set_option maxHeartbeats 1000000 in
theorem url20 (raw : ByteArray) (w : World) (hs : raw.size ≤ 1048576) (hm : Mx w) (hf : foundOf raw = true) (ha : (afterOf raw).size ≤ 1048576) :
    Calls Tryd.prog 20 #[.string raw] w fun e w' => e = .returned (.tuple #[.string (schemeOf raw), .string (userOf raw), .string (hostsOf raw), .string (tailOf raw), .bool true]) ∧ Below w.heap.size w w' := by
  have H : Hid (Calls Tryd.prog 30 #[.string raw] w fun e w' => e = .returned (.tuple #[.agg #[.string (schemeOf raw), .string (userOf raw), .string (hostsOf raw), .string (tailOf raw)], .bool true]) ∧ Below w.heap.size w w') := hide (url_yes raw w hs hm hf ha)
  clear hm ha
  generalize schemeOf raw = S at *
  generalize userOf raw = U at *
  generalize hostsOf raw = T at *
  generalize tailOf raw = R at *
  go_enter Tryd.func20, Tryd.ntmps20
  go_wp2_with fail
  refine (unhide H).mono ?_
  rintro e w1 ⟨rfl, hb1⟩
  go_wp2_with fail
  go_quiet (fail)
  go_wp2_with fail
  exact bodyPost_ret (v := .tuple #[.string S, .string U, .string T, .string R, .bool true]) (by simp [results, Tryd.results20, go_sem]) rfl ⟨rfl, below_drewN (hb1.alloc hb1.size _) _⟩

/-! ### the law -/
theorem index_no {raw : ByteArray} (h : foundOf raw = false) : Lib.index raw.data.toList sepL = -1 := by
  unfold foundOf Lib.cut at h
  by_cases h0 : 0 ≤ Lib.index raw.data.toList sepL
  · rw [if_pos h0] at h; cases h
  · have := Lib.index_ge raw.data.toList sepL
    omega
theorem index_yes {raw : ByteArray} (h : foundOf raw = true) : Lib.index raw.data.toList sepL = ((schemeOf raw).size : Int) ∧ raw.extract 0 (schemeOf raw).size = schemeOf raw ∧ (schemeOf raw).size + 3 ≤ raw.size := by
  obtain ⟨h1, h2⟩ := cut_parts h
  have h3 := sizes h
  rw [← Lib.size_eq] at h2
  refine ⟨h2, ba_ext ?_, by omega⟩
  rw [ext_take, h1, List.append_assoc, List.take_left' (by rw [Lib.size_eq])]
/-- THE PUTTING BACK. -/
theorem put_back {raw : ByteArray} (h : foundOf raw = true) : ((restOf raw).extract 0 ((schemeOf raw).size + 3 + (userOf raw).size) ++ hostsOf raw ++ (restOf raw).extract ((schemeOf raw).size + 3 + (userOf raw).size) (restOf raw).size) = raw := by
  obtain ⟨h1, _⟩ := cut_parts h
  apply ba_ext
  have hd : (restOf raw).data.toList = ((schemeOf raw).data.toList ++ sepL ++ (userOf raw).data.toList) ++ (tailOf raw).data.toList := by
    unfold restOf
    rw [app_data, app_data, app_data]
    rfl
  have hl : ((schemeOf raw).data.toList ++ sepL ++ (userOf raw).data.toList).length = (schemeOf raw).size + 3 + (userOf raw).size := by
    simp only [List.length_append, ← Lib.size_eq]
    rfl
  rw [app_data, app_data, ext_take, Lib.extract_to_end, hd, List.take_left' hl, List.drop_left' hl]
  rw [h1, three_pieces (afterOf raw)]
  simp only [List.append_assoc]
  rfl
theorem rest_ge {raw : ByteArray} : (schemeOf raw).size + 3 + (userOf raw).size + (tailOf raw).size = (restOf raw).size := by
  unfold restOf
  rw [ByteArray.size_append, ByteArray.size_append, ByteArray.size_append]
  have : (⟨#[58, 47, 47]⟩ : ByteArray).size = 3 := rfl
  omega

set_option maxHeartbeats 4000000 in
theorem law6_nourl (name raw : ByteArray) (ks : List ByteArray) (fs : List Bool) (ka ha : Option Addr) (kc hc : Nat) (w : World)
    (hks : SrcS w ka ks) (hfs : SrcB w ha fs) (hkn : ka = none → ks = []) (hhn : ha = none → fs = []) (hsz : ∀ i, i < ks.length → (ks.getD i ByteArray.empty).size ≤ maxLen) (he : Env w) (hf : foundOf raw = false) :
    Calls Tryd.prog 6 #[.string name, .slice ka ks.length kc, .slice ha fs.length hc, .string raw] w fun e w' => e = .returned (.bool true) ∧ Below w.heap.size w w' := by
  have HKS := hide hks
  have HFS := hide hfs
  have HKN := hide hkn
  have HHN := hide hhn
  have HSZ := hide hsz
  have HE := hide he
  clear hks hfs hkn hhn hsz he
  go_enter Tryd.func6, Tryd.ntmps6
  go_wp2_with fail
  refine (zb13 name raw ks ka ha kc fs.length hc w (unhide HKS)).mono ?_
  rintro e w1 ⟨b, rfl, rfl, hbd⟩
  cases b
  · go_wp2_with fail
    go_ret
    exact ⟨rfl, Below.refl _ _⟩
  obtain ⟨h1, h2, h3, h4⟩ := hbd rfl
  clear hbd
  go_wp2_with fail
  refine (tb14 name raw ks ka ha kc fs.length hc w1 (unhide HKS) h1 h2 h3 h4).mono ?_
  rintro e w2 ⟨b, rfl, rfl⟩
  cases b
  case true =>
    go_wp2_with fail
    go_ret
    exact ⟨rfl, Below.refl _ _⟩
  go_wp2_with fail
  refine (cl15 ks ka kc w2 h2 (unhide HKN) (unhide HKS)).mono ?_
  rintro e w3 ⟨ka3, kc3, rfl, hks3, hb3⟩
  have HKS3 := hide hks3
  have HB3 := hide hb3
  clear hks3 hb3
  go_wp2_with fail
  refine (cl16 fs ha hc w3 h3 (unhide HHN) ((unhide HFS).below (unhide HB3))).mono ?_
  rintro e w4 ⟨ha4, hc4, rfl, hfs4, hb4⟩
  have HKS4 := hide ((unhide HKS3).below hb4)
  have HB4 := hide ((unhide HB3).trans (hb4.mono (unhide HB3).size))
  have HFS4 := hide hfs4
  have HE4 := hide ((unhide HE).below (unhide HB4))
  clear hb4 hfs4
  go_wp2_with fail
  refine (zz17 name raw ks fs ka3 ha4 kc3 hc4 w4 h4 h2 h3 (unhide HKS4) (unhide HFS4) (unhide HSZ) (unhide HE4)).mono ?_
  rintro e w5 ⟨rfl, hb5⟩
  have HB5 := hide ((unhide HB4).trans (hb5.mono (unhide HB4).size))
  have HKS5 := hide ((unhide HKS4).below hb5)
  have HFS5 := hide ((unhide HFS4).below hb5)
  have HE5 := hide ((unhide HE4).below hb5)
  clear hb5 HKS HFS HKN HHN HE HKS3 HB3 HKS4 HB4 HFS4 HE4
  have hfl : flagOf ks fs raw = false := by simp [flagOf, hf]
  have ea : ansOf ks fs raw = .tuple #[.string raw, .string ⟨#[]⟩, .bool false] := by simp [ansOf, hfl]
  rw [ea]
  clear ea hfl
  have hix := index_no hf
  clear hf
  go_wp2_with fail
  refine (sep18 raw _ h4).mono ?_
  rintro e w6 ⟨rfl, rfl⟩
  rw [hix]
  clear hix
  go_wp2_with fail
  go_ret
  exact ⟨ret_bool (by simp), unhide HB5⟩

set_option maxHeartbeats 4000000 in
theorem law6_empty (name raw : ByteArray) (ks : List ByteArray) (fs : List Bool) (ka ha : Option Addr) (kc hc : Nat) (w : World)
    (hks : SrcS w ka ks) (hfs : SrcB w ha fs) (hkn : ka = none → ks = []) (hhn : ha = none → fs = []) (hsz : ∀ i, i < ks.length → (ks.getD i ByteArray.empty).size ≤ maxLen) (he : Env w) (hf : foundOf raw = true) (hm : min ks.length fs.length = 0) :
    Calls Tryd.prog 6 #[.string name, .slice ka ks.length kc, .slice ha fs.length hc, .string raw] w fun e w' => e = .returned (.bool true) ∧ Below w.heap.size w w' := by
  have HKS := hide hks
  have HFS := hide hfs
  have HKN := hide hkn
  have HHN := hide hhn
  have HSZ := hide hsz
  have HE := hide he
  clear hks hfs hkn hhn hsz he
  go_enter Tryd.func6, Tryd.ntmps6
  go_wp2_with fail
  refine (zb13 name raw ks ka ha kc fs.length hc w (unhide HKS)).mono ?_
  rintro e w1 ⟨b, rfl, rfl, hbd⟩
  cases b
  · go_wp2_with fail
    go_ret
    exact ⟨rfl, Below.refl _ _⟩
  obtain ⟨h1, h2, h3, h4⟩ := hbd rfl
  clear hbd
  go_wp2_with fail
  refine (tb14 name raw ks ka ha kc fs.length hc w1 (unhide HKS) h1 h2 h3 h4).mono ?_
  rintro e w2 ⟨b, rfl, rfl⟩
  cases b
  case true =>
    go_wp2_with fail
    go_ret
    exact ⟨rfl, Below.refl _ _⟩
  go_wp2_with fail
  refine (cl15 ks ka kc w2 h2 (unhide HKN) (unhide HKS)).mono ?_
  rintro e w3 ⟨ka3, kc3, rfl, hks3, hb3⟩
  have HKS3 := hide hks3
  have HB3 := hide hb3
  clear hks3 hb3
  go_wp2_with fail
  refine (cl16 fs ha hc w3 h3 (unhide HHN) ((unhide HFS).below (unhide HB3))).mono ?_
  rintro e w4 ⟨ha4, hc4, rfl, hfs4, hb4⟩
  have HKS4 := hide ((unhide HKS3).below hb4)
  have HB4 := hide ((unhide HB3).trans (hb4.mono (unhide HB3).size))
  have HFS4 := hide hfs4
  have HE4 := hide ((unhide HE).below (unhide HB4))
  clear hb4 hfs4
  go_wp2_with fail
  refine (zz17 name raw ks fs ka3 ha4 kc3 hc4 w4 h4 h2 h3 (unhide HKS4) (unhide HFS4) (unhide HSZ) (unhide HE4)).mono ?_
  rintro e w5 ⟨rfl, hb5⟩
  have HB5 := hide ((unhide HB4).trans (hb5.mono (unhide HB4).size))
  have HKS5 := hide ((unhide HKS4).below hb5)
  have HFS5 := hide ((unhide HFS4).below hb5)
  have HE5 := hide ((unhide HE4).below hb5)
  clear hb5 HKS HFS HKN HHN HE HKS3 HB3 HKS4 HB4 HFS4 HE4
  have hfl : flagOf ks fs raw = false := by simp [flagOf, hm, scanB]
  have ea : ansOf ks fs raw = .tuple #[.string raw, .string ⟨#[]⟩, .bool false] := by simp [ansOf, hfl]
  rw [ea]
  clear ea hfl
  obtain ⟨hix, hex, h3s⟩ := index_yes hf
  have HIX := hide hix
  have HEX := hide hex
  clear hix hex
  go_wp2_with fail
  refine (sep18 raw _ h4).mono ?_
  rintro e w6 ⟨rfl, rfl⟩
  rw [unhide HIX]
  go_wp2_with fail
  rw [unhide HEX]
  refine (low19 (schemeOf raw) _ (by omega) (unhide HE5)).mono ?_
  rintro e w7 ⟨rfl, hb7⟩
  have HB7 := hide ((unhide HB5).trans (hb7.mono (unhide HB5).size))
  clear hb7
  generalize lowOf (schemeOf raw) = low at *
  by_cases hk0 : ks.length = 0
  · rw [hk0]
    go_wp2_with fail
    refine wp_loop_rounds 1 ?_
    rw [rounds_succ]
    go_wp2_with fail
    go_ret
    exact ⟨ret_bool (by simp), unhide HB7⟩
  · have hf0 : fs.length = 0 := by omega
    rw [hf0]
    have hk1 : (0 : Int) < (ks.length : Int) := by omega
    go_wp2_with fail
    refine wp_loop_rounds 1 ?_
    rw [rounds_succ]
    go_wp2_with fail
    go_ret
    exact ⟨ret_bool (by simp), unhide HB7⟩
end Go.Proofs.Qxb6602029aDoor
