/-
  THE WALK of FnWriteHeaderIsGreedyFold.
-/
import Derived.Test.Qxb6602105aDoorGfWalk
import Derived.Laws.OwnMore
import Derived.Laws.IdiomCopy
namespace Go.Proofs.Qxb6602105aDoor
open Go.RowKit

set_option maxRecDepth 100000 in
set_option maxHeartbeats 8000000 in
theorem law3 (l : List UInt8) (a : Option Addr) (pc : Nat) (name value : ByteArray) (w : World) (hs : SrcY w a pc l) (hm : Mx w) : Calls Tryd.prog 3 #[.slice a l.length pc, .string name, .string value] w (Ok w) := by
  have HZ := hidW (zb7 l a pc name value w)
  by_cases q0 : l.length ≤ 262144
  case neg =>
    have d0 : (262144 : Int) < (l.length : Int) := by omega
    go_enter Tryd.func3, Tryd.ntmps3
    go_wp2_with fail
    refine (unhidW HZ).mono ?_
    rintro e w1 ⟨b, rfl, hw1⟩
    subst hw1
    cases b <;> (go_wp2_with fail; go_ret; exact ⟨rfl, Below.refl _ _⟩)
  have e0 : decide ((262144 : Int) < (l.length : Int)) = false := decide_eq_false (by omega)
  by_cases q1 : name.size ≤ 262144
  case neg =>
    have d1 : (262144 : Int) < (name.size : Int) := by omega
    go_enter Tryd.func3, Tryd.ntmps3
    go_wp2_with fail
    refine (unhidW HZ).mono ?_
    rintro e w1 ⟨b, rfl, hw1⟩
    subst hw1
    cases b <;> (go_wp2_with fail; go_ret; exact ⟨rfl, Below.refl _ _⟩)
  have e1 : decide ((262144 : Int) < (name.size : Int)) = false := decide_eq_false (by omega)
  by_cases q2 : value.size ≤ 262144
  case neg =>
    have d2 : (262144 : Int) < (value.size : Int) := by omega
    go_enter Tryd.func3, Tryd.ntmps3
    go_wp2_with fail
    refine (unhidW HZ).mono ?_
    rintro e w1 ⟨b, rfl, hw1⟩
    subst hw1
    cases b <;> (go_wp2_with fail; go_ret; exact ⟨rfl, Below.refl _ _⟩)
  have e2 : decide ((262144 : Int) < (value.size : Int)) = false := decide_eq_false (by omega)
  have hnil := fun w a l c => run_neq_slice_nil (P := Tryd.prog) w 22 5 a l c Tryd.underlying22
  have hmk := fun w => run_make_row' (P := Tryd.prog) 22 5 (.int .u8 0) 1 Tryd.underlying22 info5 rfl .i64 .i64 l.length (by omega) (by omega) w
  have hsz5 : (Tryd.prog.info? 5).map (·.size) = some 1 := by kernel_rfl
  have HM := hidW hm
  clear hm
  rcases hs with ⟨rfl, rfl, rfl⟩ | ⟨ad, rfl, hs⟩
  · have HP2 : Hid (PreAt w none []) := hidW (.inl ⟨rfl, rfl⟩)
    have HB2 : Hid (Below w.heap.size w w) := hidW (Below.refl _ _)
    simp only [List.length_nil] at HZ e0 ⊢
    clear hmk e0 q0
    go_enter Tryd.func3, Tryd.ntmps3
    go_wp2_with fail
    refine (unhidW HZ).mono ?_
    rintro e w1 ⟨b, rfl, hw1⟩
    subst hw1
    clear HZ
    cases b
    · go_wp2_with fail
      go_ret
      exact ⟨rfl, Below.refl _ _⟩
    have H8 := hidW (zz8 (pc := 0) name value (unhidW HP2) ((unhidW HM).below (unhidW HB2)) (by simp) q1 q2)
    have H9 := hidW fun g cap w3 hp hat hg => fold9 ([] : List UInt8) none 0 name value g cap w3 hp hat hg (by simp) q1 q2
    generalize outL ([] : List UInt8) name value = W at *
    go_wp2_with fail
    refine (unhidW H8).mono ?_
    rintro e w3 ⟨g3, cap3, rfl, ho3, hb3⟩
    have hat3 := at8_own ho3
    have hg3 := (ho3.lt g3 rfl).2
    have hp3 := (unhidW HP2).below hb3
    have H9' := hidW (unhidW H9 g3 cap3 w3 hp3 hat3 hg3)
    have HB3 := hidW ((unhidW HB2).trans (hb3.mono (unhidW HB2).size))
    clear ho3 hat3 hp3 hb3 H8 H9
    go_wp2_with fail
    refine (unhidW H9').mono ?_
    rintro e w4 ⟨rfl, hb4⟩
    have HB4 := hidW ((unhidW HB3).trans (hb4.mono (unhidW HB3).size))
    clear hb4
    go_wp2_with fail
    go_ret
    exact ⟨rfl, unhidW HB4⟩
  · have HS := hidW hs
    clear hs
    go_enter Tryd.func3, Tryd.ntmps3
    go_wp2_with fail
    refine (unhidW HZ).mono ?_
    rintro e w1 ⟨b, rfl, hw1⟩
    subst hw1
    clear HZ
    cases b
    · go_wp2_with fail
      go_ret
      exact ⟨rfl, Below.refl _ _⟩
    have hr0 : (w1.alloc (.cells (madeCells #[.int .u8 0] l.length) 5)).heap[w1.heap.size]? = some (.cells (List.replicate l.length (Value.int .u8 0)).toArray 5 (0, 0)) := by
      rw [← toList_madeCells_one, Array.toArray_toList]
      show (w1.heap.push _)[w1.heap.size]? = _
      simp
    have hb0 : Below w1.heap.size w1 (w1.alloc (.cells (madeCells #[.int .u8 0] l.length) 5)) := (Below.refl _ _).alloc (Nat.le_refl _) _
    obtain ⟨cs, hcs⟩ : ∃ cs, cs = Lib.byteCells l := ⟨_, rfl⟩
    have hcl : cs.length = l.length := by rw [hcs, Lib.byteCells_length]
    have hc0 : ∀ j v, cs[j]? = some v → (w1.alloc (.cells (madeCells #[.int .u8 0] l.length) 5)).cell? (ad.add j) = some v := fun j v hv => by
      have hjl : j < l.length := by rw [← hcl]; exact (List.getElem?_eq_some_iff.1 hv).1
      obtain ⟨b, o, rfl, hbl, hcell⟩ := unhidW HS (by omega)
      have e1 : v = .int .u8 (l[j].toNat : Int) := by
        rw [hcs] at hv
        simp [Lib.byteCells, hjl] at hv
        exact hv.symm
      rw [add_atW, e1]
      exact (hb0.cell (p := ⟨b, o + j, none⟩) hbl).trans (hcell j hjl)
    have hcp := run_copy_row (P := Tryd.prog) (w1.alloc (.cells (madeCells #[.int .u8 0] l.length) 5)) 22 22 3 5 w1.heap.size 0 l.length l.length ad l.length pc (List.replicate l.length (Value.int .u8 0)).toArray 5 cs Tryd.underlying22 hsz5 hr0 (by rw [hcl]; exact (Nat.min_self _).symm) hc0 (by rw [hcl]; simp) (by rw [hcs]; exact one_bytes l)
    have e2 : (((List.replicate l.length (Value.int .u8 0)).toArray.toList.take 0 ++ cs ++ (List.replicate l.length (Value.int .u8 0)).toArray.toList.drop (0 + cs.length)).toArray : Array Value) = cs.toArray := by
      rw [hcl]
      simp
    rw [e2, hcl] at hcp
    have hb2 := below_setRow hb0 (Nat.le_refl _) cs.toArray
    have hr2 := setRow_heap _ w1.heap.size _ cs.toArray 5 _ hr0
    generalize (w1.alloc (.cells (madeCells #[.int .u8 0] l.length) 5)).setRow w1.heap.size cs.toArray = w2 at *
    have hc2 : At8 w2 w1.heap.size l := fun j hj => by
      rw [hcs] at hr2
      simp [World.cell?, hr2, Lib.byteCells, hj]
    have hs2 : w1.heap.size < w2.heap.size := by
      rcases Nat.lt_or_ge w1.heap.size w2.heap.size with h' | h'
      · exact h'
      · rw [Array.getElem?_eq_none h'] at hr2
        cases hr2
    have hp2 : PreAt w2 (some ⟨w1.heap.size, 0, none⟩) l := .inr ⟨_, rfl, hs2, hc2⟩
    have HP2 := hidW hp2
    have HB2 := hidW hb2
    have HC2 := hidW hc2
    clear hr0 hb0 hcs hcl hc0 e2 hb2 hr2 hc2 hp2 HS
    go_wp2_with fail
    clear hcp cs
    have H8 := hidW (zz8 (pc := l.length) name value (unhidW HP2) ((unhidW HM).below (unhidW HB2)) q0 q1 q2)
    have H9 := hidW fun g cap w3 hp hat hg => fold9 l (some ⟨w1.heap.size, 0, none⟩) l.length name value g cap w3 hp hat hg q0 q1 q2
    generalize outL l name value = W at *
    refine (unhidW H8).mono ?_
    rintro e w3 ⟨g3, cap3, rfl, ho3, hb3⟩
    have hat3 := at8_own ho3
    have hg3 := (ho3.lt g3 rfl).2
    have hp3 := (unhidW HP2).below hb3
    have H9' := hidW (unhidW H9 g3 cap3 w3 hp3 hat3 hg3)
    have HB3 := hidW ((unhidW HB2).trans (hb3.mono (unhidW HB2).size))
    clear ho3 hat3 hp3 hb3 H8 H9
    go_wp2_with fail
    refine (unhidW H9').mono ?_
    rintro e w4 ⟨rfl, hb4⟩
    have HB4 := hidW ((unhidW HB3).trans (hb4.mono (unhidW HB3).size))
    clear hb4
    go_wp2_with fail
    go_ret
    exact ⟨rfl, unhidW HB4⟩
end Go.Proofs.Qxb6602105aDoor
