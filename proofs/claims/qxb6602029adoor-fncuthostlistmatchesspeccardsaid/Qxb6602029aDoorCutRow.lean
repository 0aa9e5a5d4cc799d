/-
  WHAT BOTH ROWS over cutHostList want: the wrap that keeps the world's shape beside what is listed; the library's variables out of it; a slice of strings, of bools, opened.
-/
import Derived.Test.Qxb6602029aDoorTie
import Derived.Test.Qxb6602029aDoorCards
import Derived.Test.Qxb6602029aDoorCutList
import Derived.ProofKit
import Derived.Lay
import Derived.PinnedBridge
import Derived.SliceStrings
import Derived.Deep.Grids
namespace Go.Proofs.Qxb6602029aDoor
open Go.ChangeShapes Go.WideShapes Go.ChangeAt Go.RowKit Go.Lib Go.Deep
open Go.ChangeMaps (open_string shut_string)

theorem own : ownKnob Tryd.prog.godebug = none := by kernel_rfl
theorem laidOut : laidOutB Tryd.prog = true := by kernel_rfl
theorem cells9 : Tryd.prog.cellsOf 9 = 1 := by kernel_rfl
theorem cells4 : Tryd.prog.cellsOf 4 = 1 := by kernel_rfl

/-- The wrap with a condition on the world ('laid') AND the world's shape handed on. -/
theorem returns_and_shaped {H : Type} {enc : TypeId × Value → H} {C : Checked} {os : Os} {f : FuncId} {fn : Func} {s : ChangeSpec} {conds : List PathCond} {apart fresh handsOn again : Bool} {X : World → Prop}
    (hX : ∀ (w w' : World), w.heap = w'.heap → X w → X w')
    (own : ownKnob C.prog.godebug = none) (started : os.Started) (noInit : C.prog.inits.idxOf? f = none) (hfn : C.prog.funcs[f]? = some fn)
    (witness : ∃ (w : World) (tape : Tape) (i : Input), w.os = os ∧ (w.forCall tape i).Shaped C.prog ∧ i.vars = [] ∧ Input.okWide C.prog (w.forCall tape i) .any w.heap.size f i ∧
      ((s.pre enc C.prog fn conds apart (w.forCall tape i).memory i.args ∧ X (w.forCall tape i).memory) ∧ sizedMet enc C.prog fn (OpenSpec.ofChange s) apart (w.forCall tape i).memory i.args) ∧ ({} : Assume).holds C.prog (lone (Frame.enter C.prog f i.args .normal) [] (w.forCall tape i)))
    (contract : ∀ (W : World) (base : Nat) (args : Array Value) (ds gs : List (DataW H)) (before : List MemPlace),
      (∀ (j : Nat) t v, fn.params[j]? = some t → args[j]? = some v → Value.okWide C.prog W .any base t v) →
      DataW.Whole enc C.prog fn.params.toList s.vars apart W args.toList ds gs before → X W → W.ShapedOpen C.prog →
      Calls C.prog f args W fun e W' => ∃ v, e = .returned v ∧ s.post enc C.prog fn apart fresh handsOn again W args v W') :
    ReturnsInHanded {} C os f .any (fun w args => (s.pre enc C.prog fn conds apart w args ∧ X w) ∧ sizedMet enc C.prog fn (OpenSpec.ofChange s) apart w args) (s.post enc C.prog fn apart fresh handsOn again) := by
  refine returnsInHanded_of_calls own started noInit witness ?_
  intro w tape i _ hsh _ hok hpre _
  obtain ⟨_, _, _, fn', hfn', _, _, _, _, hval⟩ := hok
  have e : fn' = fn := Option.some.inj (hfn'.symm.trans hfn)
  subst e
  obtain ⟨⟨⟨ds, gs, before, hw, _⟩, hx⟩, _⟩ := hpre
  have hw' := DataW.Whole.of_heap (w' := w.forCall tape i) (by rfl) hw
  refine (contract (w.forCall tape i) w.heap.size i.args ds gs before hval hw' (hX _ _ (by rfl) hx) hsh).mono fun e W' ⟨v, he, hp⟩ => ?_
  subst he
  exact ChangeSpec.post_blind hp

abbrev laid3 : List (String × DataW Unit) := Rows.fnCutHostListIsIdempotentRow.laid
theorem accept_eq : (Rows.laid_unicode_utf8_acceptRanges : DataW Unit) = Lib.acceptData := by kernel_rfl
theorem env_of {W : World} (hL : laidMetH Tryd.prog laid3 W) (hsh : W.ShapedOpen Tryd.prog) : Env W := by
  rw [MakeChecks.laidMetH_plain _ _ _ (by kernel_rfl)] at hL
  refine ⟨Tryd.laysM145.s1_3 W hsh, ?_, ?_⟩
  · exact caseVar_of_reads (ρ := Tryd.lays159_ren) { Tryd.lays159 with } Tryd.lays159.t206 ⟨by kernel_rfl, by kernel_rfl, by kernel_rfl, by kernel_rfl, by kernel_rfl, by kernel_rfl⟩ (Pinned.caseRanges_eq ▸ Lib.laidMet.reads hL (.tail _ (.head _)))
  · exact utf8Tabs_of_reads (ρ := Tryd.lays159_ren) { Tryd.lays159 with } ⟨by kernel_rfl, by kernel_rfl, by kernel_rfl, by kernel_rfl, by kernel_rfl, by kernel_rfl, by kernel_rfl⟩ (Pinned.utf8First_eq ▸ Lib.laidMet.reads hL (.tail _ (.tail _ (.head _)))) (accept_eq ▸ Lib.laidMet.reads hL (.head _))

theorem add_at (b off i : Nat) : (⟨b, off, none⟩ : Addr).add i = ⟨b, off + i, none⟩ := by
  by_cases h : i = 0
  · subst h; simp [Addr.add]
  · simp [Addr.add, h]
theorem open_ss {H : Type} {enc : TypeId × Value → H} {W : World} {a0 : Option Addr} {len cap fuel : Nat} {x : DataW H × List MemPlace}
    (hf : DataW.trod enc Tryd.prog W 0 (fun _ => true) true fuel 25 [.slice a0 len cap] = some x) :
    ∃ ks : List ByteArray, ks.length = len ∧ SrcS W a0 ks ∧ (a0 = none → ks = []) ∧ ∀ i, i < ks.length → (ks.getD i ByteArray.empty).size ≤ maxLen := by
  rcases open_strings Tryd.underlying25 Tryd.underlying9 cells9 hf with ⟨hcs, _⟩ | ⟨a, len', cap', ss, hcs, _, hl, _, hz, _, hcell, hw⟩
  · simp at hcs
    obtain ⟨rfl, rfl, rfl⟩ := hcs
    exact ⟨[], rfl, .inl rfl, fun _ => rfl, fun i hi => by simp at hi⟩
  · simp at hcs
    obtain ⟨rfl, rfl, rfl⟩ := hcs
    simp only [if_true] at hz
    have hlen : (ss.take len).length = len := by rw [List.length_take]; omega
    have hget : ∀ i, i < len → (ss.take len).getD i ByteArray.empty = ss.getD i ByteArray.empty := fun i hi => by
      rw [List.getD_eq_getElem?_getD, List.getD_eq_getElem?_getD, List.getElem?_take, if_pos hi]
    refine ⟨ss.take len, hlen, ?_, (fun h => by cases h), fun i hi => ?_⟩
    · by_cases h0 : len = 0
      · left; rw [h0]; rfl
      · right
        obtain ⟨b, off, spot⟩ := a
        have hspot : spot = none := by simpa [Addr.add] using World.cell?_spot (hcell 0 (by omega))
        subst hspot
        refine ⟨b, off, rfl, lt_of_cell (hcell 0 (by omega)), fun i hi => ?_⟩
        rw [hget i (by omega)]
        rw [← add_at]
        exact hcell i (by omega)
    · rw [hlen] at hi
      rw [hget i hi]
      have hi' : i < ss.length := by omega
      rw [List.getD_eq_getElem?_getD, List.getElem?_eq_getElem hi']
      exact hw _ (List.getElem_mem hi')

theorem open_bs {H : Type} {enc : TypeId × Value → H} {W : World} {a0 : Option Addr} {len cap fuel : Nat} {x : DataW H × List MemPlace}
    (hf : DataW.trod enc Tryd.prog W 0 (fun _ => true) true fuel 26 [.slice a0 len cap] = some x) :
    ∃ fs : List Bool, fs.length = len ∧ SrcB W a0 fs ∧ (a0 = none → fs = []) := by
  rcases open_bools Tryd.underlying26 Tryd.underlying4 cells4 hf with ⟨hcs, _⟩ | ⟨a, len', cap', B, hcs, _, hl, _, _, hcell⟩
  · simp at hcs
    obtain ⟨rfl, rfl, rfl⟩ := hcs
    exact ⟨[], rfl, .inl rfl, fun _ => rfl⟩
  · simp at hcs
    obtain ⟨rfl, rfl, rfl⟩ := hcs
    refine ⟨(List.range len).map B, by simp, ?_, fun h => by cases h⟩
    by_cases h0 : len = 0
    · left; rw [h0]; rfl
    · right
      obtain ⟨b, off, spot⟩ := a
      have hspot : spot = none := by simpa [Addr.add] using World.cell?_spot (hcell 0 (by omega))
      subst hspot
      refine ⟨b, off, rfl, lt_of_cell (hcell 0 (by omega)), fun i hi => ?_⟩
      have hi' : i < len := by simpa using hi
      have e : ((List.range len).map B).getD i false = B i := by
        rw [List.getD_eq_getElem?_getD, List.getElem?_map, List.getElem?_range hi']
        rfl
      rw [e]
      rw [← add_at]
      exact hcell i (by omega)
end Go.Proofs.Qxb6602029aDoor
