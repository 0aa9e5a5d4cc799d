/-
  THE ROW of FnRecipientFieldCaseTable, PROVED; ITS TIED CARD.
-/
import Derived.Test.Qxb6602105aDoorRow
import Derived.Test.Qxb6602105aDoorRecLaw
import Derived.SliceStrings
namespace Go.Proofs.Qxb6602105aDoor
open Go.ChangeShapes Go.WideShapes Go.ChangeAt Go.RowKit Go.Lib
open Go.ChangeMaps (open_string shut_string)

theorem accept_eq : (Rows.laid_unicode_utf8_acceptRanges : DataW Unit) = Lib.acceptData := by kernel_rfl
theorem env_of {W : World} (hL : laidMetH Tryd.prog Rows.fnRecipientFieldCaseTableRow.laid W) : Env W := by
  rw [MakeChecks.laidMetH_plain _ _ _ (by kernel_rfl)] at hL
  refine ⟨?_, ?_⟩
  · exact caseVar_of_reads (ρ := Tryd.lays159_ren) { Tryd.lays159 with } Tryd.lays159.t206 ⟨by kernel_rfl, by kernel_rfl, by kernel_rfl, by kernel_rfl, by kernel_rfl, by kernel_rfl⟩ (Pinned.caseRanges_eq ▸ Lib.laidMet.reads hL (.tail _ (.head _)))
  · exact utf8Tabs_of_reads (ρ := Tryd.lays159_ren) { Tryd.lays159 with } ⟨by kernel_rfl, by kernel_rfl, by kernel_rfl, by kernel_rfl, by kernel_rfl, by kernel_rfl, by kernel_rfl⟩ (Pinned.utf8First_eq ▸ Lib.laidMet.reads hL (.tail _ (.tail _ (.head _)))) (accept_eq ▸ Lib.laidMet.reads hL (.head _))

set_option maxRecDepth 100000 in
theorem lifted5 (os : Os) (started : os.Started) (H : Type) (enc : TypeId × Value → H) :
    ReturnsInHanded {} Tryd.checked os 5 .any (fun w args => (Rows.fnRecipientFieldCaseTableSpec.pre enc Tryd.prog Tryd.f5 [] false w args ∧ laidMetH Tryd.prog Rows.fnRecipientFieldCaseTableRow.laid w) ∧ sizedMet enc Tryd.prog Tryd.f5 (OpenSpec.ofChange Rows.fnRecipientFieldCaseTableSpec) false w args)
      (Rows.fnRecipientFieldCaseTableSpec.post enc Tryd.prog Tryd.f5 false true false false) := by
  refine returns_and_shaped (C := Tryd.checked) (X := fun w => laidMetH Tryd.prog Rows.fnRecipientFieldCaseTableRow.laid w) (fun _ _ hh h => h.of_heap hh) own started (by kernel_rfl) Tryd.func5
    (ChangeSpec.witness_shaped (enc := enc) (C := Tryd.checked) (os := os) (X := fun w _ => laidMetH Tryd.prog Rows.fnRecipientFieldCaseTableRow.laid w) false (World.laidAll Tryd.prog os Rows.fnRecipientFieldCaseTableRow.laid) #[.string ⟨#[]⟩, .string ⟨#[]⟩, .string ⟨#[]⟩, .string ⟨#[]⟩] 8 (World.laidAll_os _ _ _)
      (World.shaped_of_ZipB (by kernel_rfl) (by kernel_rfl)) (by kernel_rfl) (by kernel_rfl) (by kernel_rfl)
      (by rw [MakeChecks.laidMetH_plain _ _ _ (by kernel_rfl)]; exact laidMet_laidAll _ (by kernel_rfl) (by kernel_rfl))) ?_
  intro W base args ds gs before hval0 hW hL hsh
  have hval : ∀ (j : Nat) t v, Tryd.f5.params[j]? = some t → args[j]? = some v → Value.okWide Tryd.prog W .any base t v := hval0
  have hW' := hW
  obtain ⟨p, q, hA0, hV, rfl, _, _⟩ := hW
  have hA : DataW.TrodAll enc Tryd.prog W 0 (fun _ => true) true Tryd.f5.params.toList args.toList ds p := hA0
  rw [Tryd.params5] at hA hval
  obtain ⟨v0, v1, v2, v3, d0, d1, d2, d3, p0, p1, p2, p3, rfl, rfl, rfl, h0, h1, h2, h3⟩ := trodAll_four hA
  obtain ⟨rfl, rfl⟩ := trodVars_none hV
  obtain ⟨a, rfl, rfl, rfl, ha⟩ := open_string Tryd.underlying9 (hval 0 9 v0 rfl rfl) h0
  obtain ⟨n, rfl, rfl, rfl, hn⟩ := open_string Tryd.underlying9 (hval 1 9 v1 rfl rfl) h1
  obtain ⟨u, rfl, rfl, rfl, hu⟩ := open_string Tryd.underlying9 (hval 2 9 v2 rfl rfl) h2
  obtain ⟨k, rfl, rfl, rfl, hk⟩ := open_string Tryd.underlying9 (hval 3 9 v3 rfl rfl) h3
  have hE := env_of hL
  clear hA0 hval0 hL hsh
  simp only [List.append_nil] at hW'
  refine (law5 a n u k W hE).mono fun e W' ⟨he, hb⟩ => ?_
  subst he
  exact ⟨_, rfl, _, _, _, [], [], [], hW', trodAll_mk1 (shut_bool Tryd.underlying4 _), trodAll_mk4 (shut_string Tryd.underlying9 ha) (shut_string Tryd.underlying9 hn) (shut_string Tryd.underlying9 hu) (shut_string Tryd.underlying9 hk), rfl, hb.frame _, fun h => by cases h⟩

theorem fnRecipientFieldCaseTable_holds : Rows.FnRecipientFieldCaseTableSaid :=
  OpenClaim.holds_of_wide 5 Tryd.f5 rfl rfl rfl rfl rfl rfl rfl ⟨rfl, rfl, rfl, rfl, rfl⟩ rfl rfl rfl rfl rfl (by kernel_rfl) Tryd.func5 (by kernel_rfl)
    (of_decide_eq_true (by kernel_rfl)) (by unfold Func.isWrapper; first | (rw [if_pos (by decide +kernel)]; kernel_rfl) | (rw [if_neg (by decide +kernel)]; exact ⟨rfl, rfl⟩))
    (fun os started H enc _ => lifted5 os started H enc)

theorem fnRecipientFieldCaseTable_card : Rows.FnRecipientFieldCaseTableCardSaid :=
  Claim7.holds_tied_plain_at .later [] [.data, .pinned, .pinned] true (true, "9cff67801a03fbe10562270ed6b121682e453dd58713be3ce1b8bb15eb452be4") false
    fnRecipientFieldCaseTable_holds (fun _ h => by cases h) (by kernel_rfl) (fun _ h => by cases h) fnRecipientFieldCaseTable_row_tie rfl ⟨rfl, rfl⟩ (by kernel_rfl) rfl
    (fun f fn hf hfn => by
      obtain rfl : f = 5 := Option.some.inj ((show Tryd.prog.funcNamed Rows.fnRecipientFieldCaseTableRow.func = some 5 by kernel_rfl).symm.trans hf) |>.symm
      obtain rfl : fn = Tryd.f5 := (Option.some.inj (Tryd.func5.symm.trans hfn)).symm
      exact ⟨by kernel_rfl, fun j t ht => by
        rw [Tryd.params5] at ht
        have hm : t ∈ [9, 9, 9, 9] := by simpa using Array.mem_of_getElem? ht
        have hall : ([9, 9, 9, 9].all fun u => !Tryd.prog.wantsStandIn u) = true := by kernel_rfl
        exact (show Tryd.prog.wantsStandIn t = false by simpa using List.all_eq_true.1 hall t hm)⟩)
    (by kernel_rfl)
#print axioms fnRecipientFieldCaseTable_card
end Go.Proofs.Qxb6602105aDoor
