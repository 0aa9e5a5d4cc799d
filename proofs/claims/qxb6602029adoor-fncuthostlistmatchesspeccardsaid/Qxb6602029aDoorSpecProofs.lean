/-
  THE ROW of FnCutHostListMatchesSpec, PROVED; ITS TIED CARD.
-/
import Derived.Test.Qxb6602029aDoorCutRow
import Derived.Test.Qxb6602029aDoorSpecLaw
namespace Go.Proofs.Qxb6602029aDoor
open Go.ChangeShapes Go.WideShapes Go.ChangeAt Go.RowKit Go.Lib Go.Deep
open Go.ChangeMaps (open_string shut_string)

set_option maxRecDepth 100000 in
theorem lifted6 (os : Os) (started : os.Started) (H : Type) (enc : TypeId × Value → H) :
    ReturnsInHanded {} Tryd.checked os 6 .any (fun w args => (Rows.fnCutHostListMatchesSpecSpec.pre enc Tryd.prog Tryd.f6 [] false w args ∧ laidMetH Tryd.prog Rows.fnCutHostListMatchesSpecRow.laid w) ∧ sizedMet enc Tryd.prog Tryd.f6 (OpenSpec.ofChange Rows.fnCutHostListMatchesSpecSpec) false w args)
      (Rows.fnCutHostListMatchesSpecSpec.post enc Tryd.prog Tryd.f6 false true false false) := by
  refine returns_and_shaped (C := Tryd.checked) (X := fun w => laidMetH Tryd.prog Rows.fnCutHostListMatchesSpecRow.laid w) (fun _ _ hh h => h.of_heap hh) own started (by kernel_rfl) Tryd.func6
    (ChangeSpec.witness_shaped (enc := enc) (C := Tryd.checked) (os := os) (X := fun w _ => laidMetH Tryd.prog Rows.fnCutHostListMatchesSpecRow.laid w) false (World.laidAll Tryd.prog os Rows.fnCutHostListMatchesSpecRow.laid) #[.string ⟨#[]⟩, .slice none 0 0, .slice none 0 0, .string ⟨#[]⟩] 8 (World.laidAll_os _ _ _)
      (World.shaped_of_ZipB (by kernel_rfl) (by kernel_rfl)) (by kernel_rfl) (by kernel_rfl) (by kernel_rfl)
      (by rw [MakeChecks.laidMetH_plain _ _ _ (by kernel_rfl)]; exact laidMet_laidAll _ (by kernel_rfl) (by kernel_rfl))) ?_
  intro W base args ds gs before hval0 hW hL hsh
  have hval : ∀ (j : Nat) t v, Tryd.f6.params[j]? = some t → args[j]? = some v → Value.okWide Tryd.prog W .any base t v := hval0
  have hW' := hW
  obtain ⟨p, q, hA0, hV, rfl, _, _⟩ := hW
  have hA : DataW.TrodAll enc Tryd.prog W 0 (fun _ => true) true Tryd.f6.params.toList args.toList ds p := hA0
  rw [Tryd.params6] at hA hval
  obtain ⟨v0, v1, v2, v3, d0, d1, d2, d3, p0, p1, p2, p3, rfl, rfl, rfl, h0, h1, h2, h3⟩ := trodAll_four hA
  obtain ⟨rfl, rfl⟩ := trodVars_none hV
  obtain ⟨name, rfl, rfl, rfl, hn⟩ := open_string Tryd.underlying9 (hval 0 9 v0 rfl rfl) h0
  obtain ⟨raw, rfl, rfl, rfl, hr⟩ := open_string Tryd.underlying9 (hval 3 9 v3 rfl rfl) h3
  obtain ⟨ka, kl, kc, rfl⟩ := okWide_slice Tryd.underlying25 (hval 1 25 v1 rfl rfl)
  obtain ⟨ha, hl, hc, rfl⟩ := okWide_slice Tryd.underlying26 (hval 2 26 v2 rfl rfl)
  have h1k := h1
  have h2k := h2
  obtain ⟨fuel1, hf1⟩ := h1
  obtain ⟨fuel2, hf2⟩ := h2
  have hE := env_of hL hsh
  clear hA0 hval0 hL hsh
  simp only [List.append_nil, List.nil_append] at hW'
  have hlt : ∀ x ∈ p1 ++ p2, x.block < W.heap.size := fun x hx => by simpa using hW'.lt x hx
  obtain ⟨ks, rfl, hks, hkn, hkz⟩ := open_ss (by simpa [Value.cells] using hf1)
  obtain ⟨fs, rfl, hfs, hfn⟩ := open_bs (by simpa [Value.cells] using hf2)
  refine (law6 name raw ks fs ka ha kc hc W hks hfs hkn hfn hkz hE).mono fun e W' ⟨he, hb⟩ => ?_
  subst he
  refine ⟨_, rfl, _, _, _, [], p1 ++ p2, [], hW', trodAll_mk1 (shut_bool Tryd.underlying4 _), ?_, rfl, hb.frame _, fun h => by cases h⟩
  have t1 := Below.trod laidOut (by kernel_rfl) (of_decide_eq_true (by kernel_rfl)) h1k hb (fun x hx => hlt x (by simp [hx]))
  have t2 := Below.trod laidOut (by kernel_rfl) (of_decide_eq_true (by kernel_rfl)) h2k hb (fun x hx => hlt x (by simp [hx]))
  have := trodAll_mk4 (shut_string (enc := enc) (w := W') (base := 0) (sp := fun b => decide (b < W.heap.size)) (held := true) Tryd.underlying9 hn) t1 t2 (shut_string (enc := enc) (w := W') (base := 0) (sp := fun b => decide (b < W.heap.size)) (held := true) Tryd.underlying9 hr)
  simp only [List.append_nil, List.nil_append] at this
  exact this

theorem fnCutHostListMatchesSpec_holds : Rows.FnCutHostListMatchesSpecSaid :=
  OpenClaim.holds_of_wide 6 Tryd.f6 rfl rfl rfl rfl rfl rfl rfl ⟨rfl, rfl, rfl, rfl, rfl⟩ rfl rfl rfl rfl rfl (by kernel_rfl) Tryd.func6 (by kernel_rfl)
    (of_decide_eq_true (by kernel_rfl)) (by unfold Func.isWrapper; first | (rw [if_pos (by decide +kernel)]; kernel_rfl) | (rw [if_neg (by decide +kernel)]; exact ⟨rfl, rfl⟩))
    (fun os started H enc _ => lifted6 os started H enc)

theorem fnCutHostListMatchesSpec_card : Rows.FnCutHostListMatchesSpecCardSaid :=
  Claim7.holds_tied_plain_at .later [] [.data, .pinned, .pinned] true (true, "757d4d0ffd0e6f0a759d3bff1e9e973913e6a3d682fedf12ef1bb6094ffc97cf") false
    fnCutHostListMatchesSpec_holds (fun _ h => by cases h) (by kernel_rfl) (fun _ h => by cases h) fnCutHostListMatchesSpec_row_tie rfl ⟨rfl, rfl⟩ (by kernel_rfl) rfl
    (fun f fn hf hfn => by
      obtain rfl : f = 6 := Option.some.inj ((show Tryd.prog.funcNamed Rows.fnCutHostListMatchesSpecRow.func = some 6 by kernel_rfl).symm.trans hf) |>.symm
      obtain rfl : fn = Tryd.f6 := (Option.some.inj (Tryd.func6.symm.trans hfn)).symm
      exact ⟨by kernel_rfl, fun j t ht => by
        rw [Tryd.params6] at ht
        have hm : t ∈ [9, 25, 26, 9] := by simpa using Array.mem_of_getElem? ht
        have hall : ([9, 25, 26, 9].all fun u => !Tryd.prog.wantsStandIn u) = true := by kernel_rfl
        exact (show Tryd.prog.wantsStandIn t = false by simpa using List.all_eq_true.1 hall t hm)⟩)
    (by kernel_rfl)
#print axioms fnCutHostListMatchesSpec_card
end Go.Proofs.Qxb6602029aDoor
