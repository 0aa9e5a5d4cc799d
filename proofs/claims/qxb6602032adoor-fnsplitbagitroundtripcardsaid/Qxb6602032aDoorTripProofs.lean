/-
  THE ROW of FnSplitBagItRoundTrip, PROVED; ITS TIED CARD.
-/
import Derived.Test.Qxb6602032aDoorRow
import Derived.Test.Qxb6602032aDoorTripB
import Derived.SliceStrings
import Derived.Deep.Grids
namespace Go.Proofs.Qxb6602032aDoor
open Go.ChangeShapes Go.WideShapes Go.ChangeAt Go.RowKit Go.Lib Go.Deep
open Go.ChangeMaps (open_string shut_string)

theorem cells9 : Tryd.prog.cellsOf 9 = 1 := by kernel_rfl
theorem open_ss {H : Type} {enc : TypeId × Value → H} {W : World} {a0 : Option Addr} {len cap fuel : Nat} {x : DataW H × List MemPlace}
    (hf : DataW.trod enc Tryd.prog W 0 (fun _ => true) true fuel 24 [.slice a0 len cap] = some x) :
    ∃ ks : List ByteArray, ks.length = len ∧ SrcS W a0 ks ∧ (a0 = none → ks = []) ∧ ∀ i, i < ks.length → (ks.getD i ByteArray.empty).size ≤ maxLen := by
  rcases open_strings Tryd.underlying24 Tryd.underlying9 cells9 hf with ⟨hcs, _⟩ | ⟨a, len', cap', ss, hcs, _, hl, _, hz, _, hcell, hw⟩
  · simp at hcs
    obtain ⟨rfl, rfl, rfl⟩ := hcs
    exact ⟨[], rfl, .inl rfl, fun _ => rfl, fun i hi => by simp at hi⟩
  · simp at hcs
    obtain ⟨rfl, rfl, rfl⟩ := hcs
    simp only [if_true] at hz
    have hlen : (ss.take len).length = len := by rw [List.length_take]; omega
    have hget : ∀ i, i < len → (ss.take len).getD i ByteArray.empty = ss.getD i ByteArray.empty := fun i hi => by
      rw [List.getD_eq_getElem?_getD, List.getD_eq_getElem?_getD, List.getElem?_take, if_pos hi]
    refine ⟨ss.take len, hlen, ?_, (fun h => by cases h), fun i hi => ?_⟩
    · by_cases h0 : len = 0
      · left; rw [h0]; rfl
      · right
        obtain ⟨b, off, spot⟩ := a
        have hspot : spot = none := by simpa [Addr.add] using World.cell?_spot (hcell 0 (by omega))
        subst hspot
        refine ⟨b, off, rfl, lt_of_cell (hcell 0 (by omega)), fun i hi => ?_⟩
        rw [hget i (by omega)]
        rw [← add_at]
        exact hcell i (by omega)
    · rw [hlen] at hi
      rw [hget i hi]
      have hi' : i < ss.length := by omega
      rw [List.getD_eq_getElem?_getD, List.getElem?_eq_getElem hi']
      exact hw _ (List.getElem_mem hi')

theorem law4 (ks : List ByteArray) (ka : Option Addr) (kc : Nat) (k : Int) (f : Bool) (w : World) (hm : Mx w) (hs : SrcS w ka ks) :
    Calls Tryd.prog 4 #[.slice ka ks.length kc, .int .u8 k, .bool f] w fun e w' => e = .returned (.bool true) ∧ Below w.heap.size w w' := by
  rcases hs with rfl | ⟨b, o, rfl, hb, hs⟩
  · exact law4_empty ka kc k f w
  · by_cases h0 : 0 < ks.length
    · exact law4_some ks b o kc k f w hb h0 hm hs
    · obtain rfl : ks = [] := List.eq_nil_of_length_eq_zero (by omega)
      exact law4_empty (some ⟨b, o, none⟩) kc k f w

set_option maxRecDepth 100000 in
theorem lifted4 (os : Os) (started : os.Started) (H : Type) (enc : TypeId × Value → H) :
    ReturnsInHanded {} Tryd.checked os 4 .any (fun w args => (Rows.fnSplitBagItRoundTripSpec.pre enc Tryd.prog Tryd.f4 [] false w args ∧ laidMetH Tryd.prog Rows.fnSplitBagItRoundTripRow.laid w) ∧ sizedMet enc Tryd.prog Tryd.f4 (OpenSpec.ofChange Rows.fnSplitBagItRoundTripSpec) false w args)
      (Rows.fnSplitBagItRoundTripSpec.post enc Tryd.prog Tryd.f4 false true false false) := by
  refine returns_and_shaped (C := Tryd.checked) (X := fun w => laidMetH Tryd.prog Rows.fnSplitBagItRoundTripRow.laid w) (fun _ _ hh h => h.of_heap hh) own started (by kernel_rfl) Tryd.func4
    (ChangeSpec.witness_shaped (enc := enc) (C := Tryd.checked) (os := os) (X := fun w _ => laidMetH Tryd.prog Rows.fnSplitBagItRoundTripRow.laid w) false (World.laidAll Tryd.prog os Rows.fnSplitBagItRoundTripRow.laid) #[.slice none 0 0, .int .u8 0, .bool false] 8 (World.laidAll_os _ _ _)
      (World.shaped_of_ZipB (by kernel_rfl) (by kernel_rfl)) (by kernel_rfl) (by kernel_rfl) (by kernel_rfl)
      (by rw [MakeChecks.laidMetH_plain _ _ _ (by kernel_rfl)]; exact laidMet_laidAll _ (by kernel_rfl) (by kernel_rfl))) ?_
  intro W base args ds gs before hval0 hW hL hsh
  have hval : ∀ (j : Nat) t v, Tryd.f4.params[j]? = some t → args[j]? = some v → Value.okWide Tryd.prog W .any base t v := hval0
  have hW' := hW
  obtain ⟨p, q, hA0, hV, rfl, _, _⟩ := hW
  have hA : DataW.TrodAll enc Tryd.prog W 0 (fun _ => true) true Tryd.f4.params.toList args.toList ds p := hA0
  rw [Tryd.params4] at hA hval
  obtain ⟨v0, v1, v2, d0, d1, d2, p0, p1, p2, rfl, rfl, rfl, h0, h1, h2⟩ := trodAll_three hA
  obtain ⟨rfl, rfl⟩ := trodVars_none hV
  obtain ⟨n, rfl, rfl, rfl, hn⟩ := open_int Tryd.underlying5 (hval 1 5 v1 rfl rfl) h1
  obtain ⟨f, rfl, rfl, rfl⟩ := open_bool Tryd.underlying4 (hval 2 4 v2 rfl rfl) h2
  obtain ⟨ka, kl, kc, rfl⟩ := okWide_slice Tryd.underlying24 (hval 0 24 v0 rfl rfl)
  have h0k := h0
  obtain ⟨fuel1, hf1⟩ := h0
  have hM : Mx W := Tryd.laysM146.s1_3 W hsh
  clear hA0 hval0 hL hsh
  simp only [List.append_nil] at hW'
  have hlt : ∀ x ∈ p0, x.block < W.heap.size := fun x hx => by simpa using hW'.lt x hx
  obtain ⟨ks, rfl, hks, hkn, hkz⟩ := open_ss (by simpa [Value.cells] using hf1)
  refine (law4 ks ka kc n f W hM hks).mono fun e W' ⟨he, hb⟩ => ?_
  subst he
  refine ⟨_, rfl, _, _, _, [], p0, [], hW', trodAll_mk1 (shut_bool Tryd.underlying4 _), ?_, rfl, hb.frame _, fun h => by cases h⟩
  have t1 := Below.trod laidOut (by kernel_rfl) (of_decide_eq_true (by kernel_rfl)) h0k hb (fun x hx => hlt x (by simp [hx]))
  have := trodAll_mk3 t1 (shut_int (enc := enc) (w := W') (base := 0) (spare := fun b => decide (b < W.heap.size)) (held := true) Tryd.underlying5 hn) (shut_bool (enc := enc) (w := W') (base := 0) (spare := fun b => decide (b < W.heap.size)) (held := true) Tryd.underlying4 f)
  simp only [List.append_nil] at this
  exact this

theorem fnSplitBagItRoundTrip_holds : Rows.FnSplitBagItRoundTripSaid :=
  OpenClaim.holds_of_wide 4 Tryd.f4 rfl rfl rfl rfl rfl rfl rfl ⟨rfl, rfl, rfl, rfl, rfl⟩ rfl rfl rfl rfl rfl (by kernel_rfl) Tryd.func4 (by kernel_rfl)
    (of_decide_eq_true (by kernel_rfl)) (by unfold Func.isWrapper; first | (rw [if_pos (by decide +kernel)]; kernel_rfl) | (rw [if_neg (by decide +kernel)]; exact ⟨rfl, rfl⟩))
    (fun os started H enc _ => lifted4 os started H enc)

theorem fnSplitBagItRoundTrip_card : Rows.FnSplitBagItRoundTripCardSaid :=
  Claim7.holds_tied_plain_at .later [] [.data, .pinned] true (true, "bcbc0436cafabf7ac3b4af71c7209773a0c28b9e08d7d74b23a39300d1c4f65f") false
    fnSplitBagItRoundTrip_holds (fun _ h => by cases h) (by kernel_rfl) (fun _ h => by cases h) fnSplitBagItRoundTrip_row_tie rfl ⟨rfl, rfl⟩ (by kernel_rfl) rfl
    (fun f fn hf hfn => by
      obtain rfl : f = 4 := Option.some.inj ((show Tryd.prog.funcNamed Rows.fnSplitBagItRoundTripRow.func = some 4 by kernel_rfl).symm.trans hf) |>.symm
      obtain rfl : fn = Tryd.f4 := (Option.some.inj (Tryd.func4.symm.trans hfn)).symm
      exact ⟨by kernel_rfl, fun j t ht => by
        rw [Tryd.params4] at ht
        have hm : t ∈ [24, 5, 4] := by simpa using Array.mem_of_getElem? ht
        have hall : ([24, 5, 4].all fun u => !Tryd.prog.wantsStandIn u) = true := by kernel_rfl
        exact (show Tryd.prog.wantsStandIn t = false by simpa using List.all_eq_true.1 hall t hm)⟩)
    (by kernel_rfl)
#print axioms fnSplitBagItRoundTrip_card
end Go.Proofs.Qxb6602032aDoor
