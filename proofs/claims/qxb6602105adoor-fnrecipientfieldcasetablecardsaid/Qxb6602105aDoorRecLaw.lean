/-
  THE WALK of FnRecipientFieldCaseTable.
-/
import Derived.Test.Qxb6602105aDoorRec
namespace Go.Proofs.Qxb6602105aDoor
open Go.RowKit

theorem low_iff (k W : ByteArray) : Lib.toLowerD k.data.toList = W.data.toList ↔ lowOf k = W := by
  unfold lowOf
  constructor
  · intro h; rw [h]
  · intro h; rw [← h]
theorem fold_yes {k W : ByteArray} (hk : k.size ≤ 262144) (hW : W.size ≤ 100) (hA : ∀ b ∈ W.data.toList, b.toNat < 128) (h : lowOf k = W) (w : World) :
    Calls Tryd.prog 14 #[.string k, .string W] w fun e w' => e = .returned (.bool true) ∧ w' = w :=
  (folds14 k W w hk hW hA).mono fun e w' ⟨he, hw⟩ => ⟨by rw [he, decide_eq_true ((low_iff k W).2 h)], hw⟩
theorem fold_no {k W : ByteArray} (hk : k.size ≤ 262144) (hW : W.size ≤ 100) (hA : ∀ b ∈ W.data.toList, b.toNat < 128) (h : lowOf k ≠ W) (w : World) :
    Calls Tryd.prog 14 #[.string k, .string W] w fun e w' => e = .returned (.bool false) ∧ w' = w :=
  (folds14 k W w hk hW hA).mono fun e w' ⟨he, hw⟩ => ⟨by rw [he, decide_eq_false (fun g => h ((low_iff k W).1 g))], hw⟩
theorem okA : wA.size ≤ 100 ∧ ∀ b ∈ wA.data.toList, b.toNat < 128 := by decide
theorem okN : wN.size ≤ 100 ∧ ∀ b ∈ wN.data.toList, b.toNat < 128 := by decide
theorem okU : wU.size ≤ 100 ∧ ∀ b ∈ wU.data.toList, b.toNat < 128 := by decide

abbrev Good (w : World) (e : Ending) (w' : World) : Prop := e = .returned (.bool true) ∧ Below w.heap.size w w'
set_option maxRecDepth 100000 in
set_option maxHeartbeats 4000000 in
theorem law5 (a n u k : ByteArray) (w : World) (he : Env w) : Calls Tryd.prog 5 #[.string a, .string n, .string u, .string k] w (Good w) := by
  have H12 := hide (zb12 a n u k w)
  by_cases q0 : a.size ≤ 262144
  case neg =>
    have d0 : (262144 : Int) < (a.size : Int) := by omega
    go_enter Tryd.func5, Tryd.ntmps5
    go_wp2_with fail
    refine (unhide H12).mono ?_
    rintro e w1 ⟨b, rfl, hw1⟩
    subst hw1
    cases b <;> (go_wp2_with fail; go_ret; exact ⟨rfl, Below.refl _ _⟩)
  have e0 : decide ((262144 : Int) < (a.size : Int)) = false := decide_eq_false (by omega)
  by_cases q1 : n.size ≤ 262144
  case neg =>
    have d1 : (262144 : Int) < (n.size : Int) := by omega
    go_enter Tryd.func5, Tryd.ntmps5
    go_wp2_with fail
    refine (unhide H12).mono ?_
    rintro e w1 ⟨b, rfl, hw1⟩
    subst hw1
    cases b <;> (go_wp2_with fail; go_ret; exact ⟨rfl, Below.refl _ _⟩)
  have e1 : decide ((262144 : Int) < (n.size : Int)) = false := decide_eq_false (by omega)
  by_cases q2 : u.size ≤ 262144
  case neg =>
    have d2 : (262144 : Int) < (u.size : Int) := by omega
    go_enter Tryd.func5, Tryd.ntmps5
    go_wp2_with fail
    refine (unhide H12).mono ?_
    rintro e w1 ⟨b, rfl, hw1⟩
    subst hw1
    cases b <;> (go_wp2_with fail; go_ret; exact ⟨rfl, Below.refl _ _⟩)
  have e2 : decide ((262144 : Int) < (u.size : Int)) = false := decide_eq_false (by omega)
  by_cases q3 : k.size ≤ 262144
  case neg =>
    have d3 : (262144 : Int) < (k.size : Int) := by omega
    go_enter Tryd.func5, Tryd.ntmps5
    go_wp2_with fail
    refine (unhide H12).mono ?_
    rintro e w1 ⟨b, rfl, hw1⟩
    subst hw1
    cases b <;> (go_wp2_with fail; go_ret; exact ⟨rfl, Below.refl _ _⟩)
  have e3 : decide ((262144 : Int) < (k.size : Int)) = false := decide_eq_false (by omega)
  have H13 := hide (zzRec13 a n u k w q3 he)
  clear he
  obtain ⟨x, t, hV⟩ : ∃ x t, fieldV a n u (lowOf k) = (x, t) := ⟨_, _, rfl⟩
  rw [hV] at H13
  have HV := hide hV
  clear hV
  go_enter Tryd.func5, Tryd.ntmps5
  go_wp2_with fail
  refine (unhide H12).mono ?_
  rintro e w1 ⟨b, rfl, hw1⟩
  subst hw1
  clear H12
  cases b
  · go_wp2_with fail
    go_ret
    exact ⟨rfl, Below.refl _ _⟩
  go_wp2_with fail
  refine (unhide H13).mono ?_
  rintro e w2 ⟨rfl, hb2⟩
  have HB := hide hb2
  clear hb2 H13
  by_cases hA : lowOf k = wA
  · have FA := hide fun w => fold_yes (w := w) q3 okA.1 okA.2 hA
    unfold wA at FA
    have hx : x = a ∧ t = true := by have := unhide HV; simp [fieldV, hA] at this; exact ⟨this.1.symm, this.2⟩
    obtain ⟨rfl, rfl⟩ := hx
    clear hA HV
    go_wp2_with fail
    refine (unhide FA _).mono ?_
    rintro e w' ⟨rfl, hw'⟩
    subst hw'
    go_wp2_with fail
    go_ret
    exact ⟨rfl, unhide HB⟩
  have FA := hide fun w => fold_no (w := w) q3 okA.1 okA.2 hA
  unfold wA at FA
  by_cases hN : lowOf k = wN
  · have nA : wN ≠ wA := by decide
    have FN := hide fun w => fold_yes (w := w) q3 okN.1 okN.2 hN
    unfold wN at FN
    by_cases hn : n = ⟨#[]⟩
    · have hx : x = a ∧ t = true := by have := unhide HV; simp [fieldV, nA, hN, hn] at this; exact ⟨this.1.symm, this.2⟩
      obtain ⟨rfl, rfl⟩ := hx
      subst hn
      clear hA hN nA HV
      go_wp2_with fail
      refine (unhide FA _).mono ?_
      rintro e w' ⟨rfl, hw'⟩
      subst hw'
      go_wp2_with fail
      refine (unhide FN _).mono ?_
      rintro e w' ⟨rfl, hw'⟩
      subst hw'
      go_wp2_with fail
      go_ret
      exact ⟨rfl, unhide HB⟩
    · have hx : x = n ∧ t = true := by have := unhide HV; simp [fieldV, nA, hN, hn] at this; exact ⟨this.1.symm, this.2⟩
      have bn := ne_empty hn
      obtain ⟨rfl, rfl⟩ := hx
      clear hA hN nA hn HV
      go_wp2_with fail
      refine (unhide FA _).mono ?_
      rintro e w' ⟨rfl, hw'⟩
      subst hw'
      go_wp2_with fail
      refine (unhide FN _).mono ?_
      rintro e w' ⟨rfl, hw'⟩
      subst hw'
      go_wp2_with fail
      go_ret
      exact ⟨rfl, unhide HB⟩
  have FN := hide fun w => fold_no (w := w) q3 okN.1 okN.2 hN
  unfold wN at FN
  by_cases hU : lowOf k = wU
  · have nA : wU ≠ wA := by decide
    have nN : wU ≠ wN := by decide
    have FU := hide fun w => fold_yes (w := w) q3 okU.1 okU.2 hU
    unfold wU at FU
    have hx : x = u ∧ t = true := by have := unhide HV; simp [fieldV, nA, nN, hU] at this; exact ⟨this.1.symm, this.2⟩
    obtain ⟨rfl, rfl⟩ := hx
    clear hA hN hU nA nN HV
    go_wp2_with fail
    refine (unhide FA _).mono ?_
    rintro e w' ⟨rfl, hw'⟩
    subst hw'
    go_wp2_with fail
    refine (unhide FN _).mono ?_
    rintro e w' ⟨rfl, hw'⟩
    subst hw'
    go_wp2_with fail
    refine (unhide FU _).mono ?_
    rintro e w' ⟨rfl, hw'⟩
    subst hw'
    go_wp2_with fail
    go_ret
    exact ⟨rfl, unhide HB⟩
  · have FU := hide fun w => fold_no (w := w) q3 okU.1 okU.2 hU
    unfold wU at FU
    have hx : x = ⟨#[]⟩ ∧ t = false := by have := unhide HV; simp [fieldV, hA, hN, hU] at this; exact ⟨this.1.symm, this.2⟩
    obtain ⟨rfl, rfl⟩ := hx
    clear hA hN hU HV
    go_wp2_with fail
    refine (unhide FA _).mono ?_
    rintro e w' ⟨rfl, hw'⟩
    subst hw'
    go_wp2_with fail
    refine (unhide FN _).mono ?_
    rintro e w' ⟨rfl, hw'⟩
    subst hw'
    go_wp2_with fail
    refine (unhide FU _).mono ?_
    rintro e w' ⟨rfl, hw'⟩
    subst hw'
    go_wp2_with fail
    go_ret
    exact ⟨rfl, unhide HB⟩
end Go.Proofs.Qxb6602105aDoor
