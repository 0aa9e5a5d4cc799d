/-
  THE ROW of FnWriteHeaderIsGreedyFold, PROVED; ITS TIED CARD.
-/
import Derived.Test.Qxb6602105aDoorWhRow
import Derived.Test.Qxb6602105aDoorGfLaw
namespace Go.Proofs.Qxb6602105aDoor
open Go.ChangeShapes Go.WideShapes Go.ChangeAt Go.RowKit Go.Lib
open Go.ChangeMaps (open_string shut_string)

set_option maxRecDepth 100000 in
theorem lifted3 (os : Os) (started : os.Started) (H : Type) (enc : TypeId × Value → H) :
    ReturnsInHanded {} Tryd.checked os 3 .any (fun w args => (Rows.fnWriteHeaderIsGreedyFoldSpec.pre enc Tryd.prog Tryd.f3 [] false w args ∧ laidMetH Tryd.prog Rows.fnWriteHeaderIsGreedyFoldRow.laid w) ∧ sizedMet enc Tryd.prog Tryd.f3 (OpenSpec.ofChange Rows.fnWriteHeaderIsGreedyFoldSpec) false w args)
      (Rows.fnWriteHeaderIsGreedyFoldSpec.post enc Tryd.prog Tryd.f3 false true false false) := by
  refine returns_and_shaped (C := Tryd.checked) (X := fun w => laidMetH Tryd.prog Rows.fnWriteHeaderIsGreedyFoldRow.laid w) (fun _ _ hh h => h.of_heap hh) own started (by kernel_rfl) Tryd.func3
    (ChangeSpec.witness_shaped (enc := enc) (C := Tryd.checked) (os := os) (X := fun w _ => laidMetH Tryd.prog Rows.fnWriteHeaderIsGreedyFoldRow.laid w) false (World.laidAll Tryd.prog os Rows.fnWriteHeaderIsGreedyFoldRow.laid) #[.slice none 0 0, .string ⟨#[]⟩, .string ⟨#[]⟩] 8 (World.laidAll_os _ _ _)
      (World.shaped_of_ZipB (by kernel_rfl) (by kernel_rfl)) (by kernel_rfl) (by kernel_rfl) (by kernel_rfl)
      (by rw [MakeChecks.laidMetH_plain _ _ _ (by kernel_rfl)]; exact laidMet_laidAll _ (by kernel_rfl) (by kernel_rfl))) ?_
  intro W base args ds gs before hval0 hW hL hsh
  have hval : ∀ (j : Nat) t v, Tryd.f3.params[j]? = some t → args[j]? = some v → Value.okWide Tryd.prog W .any base t v := hval0
  have hW' := hW
  obtain ⟨p, q, hA0, hV, rfl, _, _⟩ := hW
  have hA : DataW.TrodAll enc Tryd.prog W 0 (fun _ => true) true Tryd.f3.params.toList args.toList ds p := hA0
  rw [Tryd.params3] at hA hval
  obtain ⟨v0, v1, v2, d0, d1, d2, p0, p1, p2, rfl, rfl, rfl, h0, h1, h2⟩ := trodAll_three hA
  obtain ⟨rfl, rfl⟩ := trodVars_none hV
  obtain ⟨name, rfl, rfl, rfl, hn⟩ := open_string Tryd.underlying9 (hval 1 9 v1 rfl rfl) h1
  obtain ⟨value, rfl, rfl, rfl, hv⟩ := open_string Tryd.underlying9 (hval 2 9 v2 rfl rfl) h2
  obtain ⟨ka, kl, kc, rfl⟩ := okWide_slice Tryd.underlying22 (hval 0 22 v0 rfl rfl)
  have h0k := h0
  obtain ⟨fuel1, hf1⟩ := h0
  have hM : Mx W := Tryd.laysM146.s1_3 W hsh
  clear hA0 hval0 hL hsh
  simp only [List.append_nil] at hW'
  have hlt : ∀ x ∈ p0, x.block < W.heap.size := fun x hx => by simpa using hW'.lt x hx
  obtain ⟨l, rfl, hsrc⟩ := open_bytesY (by simpa [Value.cells] using hf1)
  refine (law3 l ka kc name value W hsrc hM).mono fun e W' ⟨he, hb⟩ => ?_
  subst he
  refine ⟨_, rfl, _, _, _, [], p0, [], hW', trodAll_mk1 (shut_bool Tryd.underlying4 _), ?_, rfl, hb.frame _, fun h => by cases h⟩
  have t1 := Below.trod laidOut (by kernel_rfl) (of_decide_eq_true (by kernel_rfl)) h0k hb (fun x hx => hlt x (by simp [hx]))
  have := trodAll_mk3 t1 (shut_string (enc := enc) (w := W') (base := 0) (sp := fun b => decide (b < W.heap.size)) (held := true) Tryd.underlying9 hn) (shut_string (enc := enc) (w := W') (base := 0) (sp := fun b => decide (b < W.heap.size)) (held := true) Tryd.underlying9 hv)
  simp only [List.append_nil] at this
  exact this

theorem fnWriteHeaderIsGreedyFold_holds : Rows.FnWriteHeaderIsGreedyFoldSaid :=
  OpenClaim.holds_of_wide 3 Tryd.f3 rfl rfl rfl rfl rfl rfl rfl ⟨rfl, rfl, rfl, rfl, rfl⟩ rfl rfl rfl rfl rfl (by kernel_rfl) Tryd.func3 (by kernel_rfl)
    (of_decide_eq_true (by kernel_rfl)) (by unfold Func.isWrapper; first | (rw [if_pos (by decide +kernel)]; kernel_rfl) | (rw [if_neg (by decide +kernel)]; exact ⟨rfl, rfl⟩))
    (fun os started H enc _ => lifted3 os started H enc)

theorem fnWriteHeaderIsGreedyFold_card : Rows.FnWriteHeaderIsGreedyFoldCardSaid :=
  Claim7.holds_tied_plain_at .later [] [.data, .sentinel, .pinned] true (true, "9cff67801a03fbe10562270ed6b121682e453dd58713be3ce1b8bb15eb452be4") false
    fnWriteHeaderIsGreedyFold_holds (fun _ h => by cases h) (by kernel_rfl) (fun _ h => by cases h) fnWriteHeaderIsGreedyFold_row_tie rfl ⟨rfl, rfl⟩ (by kernel_rfl) rfl
    (fun f fn hf hfn => by
      obtain rfl : f = 3 := Option.some.inj ((show Tryd.prog.funcNamed Rows.fnWriteHeaderIsGreedyFoldRow.func = some 3 by kernel_rfl).symm.trans hf) |>.symm
      obtain rfl : fn = Tryd.f3 := (Option.some.inj (Tryd.func3.symm.trans hfn)).symm
      exact ⟨by kernel_rfl, fun j t ht => by
        rw [Tryd.params3] at ht
        have hm : t ∈ [22, 9, 9] := by simpa using Array.mem_of_getElem? ht
        have hall : ([22, 9, 9].all fun u => !Tryd.prog.wantsStandIn u) = true := by kernel_rfl
        exact (show Tryd.prog.wantsStandIn t = false by simpa using List.all_eq_true.1 hall t hm)⟩)
    (by kernel_rfl)
#print axioms fnWriteHeaderIsGreedyFold_card
end Go.Proofs.Qxb6602105aDoor
