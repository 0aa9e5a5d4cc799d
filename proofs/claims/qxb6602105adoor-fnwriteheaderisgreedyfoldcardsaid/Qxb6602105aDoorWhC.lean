/-
  THE GUARDS of the two laws over writeHeader; zzSameBytes.
-/
import Derived.Test.Qxb6602105aDoorWhB
namespace Go.Proofs.Qxb6602105aDoor
open Go.RowKit

set_option maxHeartbeats 2000000 in
theorem zb7 (l : List UInt8) (a : Option Addr) (pc : Nat) (n v : ByteArray) (w : World) : Calls Tryd.prog 7 #[.slice a l.length pc, .string n, .string v] w fun e w' => ∃ b, e = .returned (.bool b) ∧ w' = w := by
  by_cases q1 : l.length ≤ 1048576
  case neg =>
    by_cases q : l.length ≤ 1048576
    · exact absurd q q1
    · have d1 : (1048576 : Int) < (l.length : Int) := by omega
      go_enter Tryd.func7, Tryd.ntmps7
      go_wp2_with fail
      go_ret
      exact ⟨false, rfl, rfl⟩
  have e1 : decide ((1048576 : Int) < (l.length : Int)) = false := decide_eq_false (by omega)
  by_cases q2 : l.length + n.size ≤ 1048576
  case neg =>
    by_cases q : n.size ≤ 1048576
    · have d1 : decide ((1048576 : Int) < (n.size : Int)) = false := decide_eq_false (by omega)
      have d2 : (1048576 : Int) < (l.length : Int) + (n.size : Int) := by omega
      go_enter Tryd.func7, Tryd.ntmps7
      go_wp2_with fail
      go_ret
      exact ⟨false, rfl, rfl⟩
    · have d1 : (1048576 : Int) < (n.size : Int) := by omega
      go_enter Tryd.func7, Tryd.ntmps7
      go_wp2_with fail
      go_ret
      exact ⟨false, rfl, rfl⟩
  have e2 : decide ((1048576 : Int) < (n.size : Int)) = false := decide_eq_false (by omega)
  have s2 : decide ((1048576 : Int) < (l.length : Int) + (n.size : Int)) = false := decide_eq_false (by omega)
  by_cases q3 : l.length + n.size + v.size ≤ 1048576
  case neg =>
    by_cases q : v.size ≤ 1048576
    · have d1 : decide ((1048576 : Int) < (v.size : Int)) = false := decide_eq_false (by omega)
      have d2 : (1048576 : Int) < (l.length : Int) + (n.size : Int) + (v.size : Int) := by omega
      go_enter Tryd.func7, Tryd.ntmps7
      go_wp2_with fail
      go_ret
      exact ⟨false, rfl, rfl⟩
    · have d1 : (1048576 : Int) < (v.size : Int) := by omega
      go_enter Tryd.func7, Tryd.ntmps7
      go_wp2_with fail
      go_ret
      exact ⟨false, rfl, rfl⟩
  have e3 : decide ((1048576 : Int) < (v.size : Int)) = false := decide_eq_false (by omega)
  have s3 : decide ((1048576 : Int) < (l.length : Int) + (n.size : Int) + (v.size : Int)) = false := decide_eq_false (by omega)
  go_enter Tryd.func7, Tryd.ntmps7
  go_wp2_with fail
  go_ret
  exact ⟨true, rfl, rfl⟩
set_option maxHeartbeats 2000000 in
theorem zb10 (l : List UInt8) (a : Option Addr) (pc : Nat) (n v : ByteArray) (w : World) : Calls Tryd.prog 10 #[.slice a l.length pc, .string n, .string v] w fun e w' => ∃ b, e = .returned (.bool b) ∧ w' = w := by
  by_cases q1 : l.length ≤ 1048576
  case neg =>
    by_cases q : l.length ≤ 1048576
    · exact absurd q q1
    · have d1 : (1048576 : Int) < (l.length : Int) := by omega
      go_enter Tryd.func10, Tryd.ntmps10
      go_wp2_with fail
      go_ret
      exact ⟨false, rfl, rfl⟩
  have e1 : decide ((1048576 : Int) < (l.length : Int)) = false := decide_eq_false (by omega)
  by_cases q2 : l.length + n.size ≤ 1048576
  case neg =>
    by_cases q : n.size ≤ 1048576
    · have d1 : decide ((1048576 : Int) < (n.size : Int)) = false := decide_eq_false (by omega)
      have d2 : (1048576 : Int) < (l.length : Int) + (n.size : Int) := by omega
      go_enter Tryd.func10, Tryd.ntmps10
      go_wp2_with fail
      go_ret
      exact ⟨false, rfl, rfl⟩
    · have d1 : (1048576 : Int) < (n.size : Int) := by omega
      go_enter Tryd.func10, Tryd.ntmps10
      go_wp2_with fail
      go_ret
      exact ⟨false, rfl, rfl⟩
  have e2 : decide ((1048576 : Int) < (n.size : Int)) = false := decide_eq_false (by omega)
  have s2 : decide ((1048576 : Int) < (l.length : Int) + (n.size : Int)) = false := decide_eq_false (by omega)
  by_cases q3 : l.length + n.size + v.size ≤ 1048576
  case neg =>
    by_cases q : v.size ≤ 1048576
    · have d1 : decide ((1048576 : Int) < (v.size : Int)) = false := decide_eq_false (by omega)
      have d2 : (1048576 : Int) < (l.length : Int) + (n.size : Int) + (v.size : Int) := by omega
      go_enter Tryd.func10, Tryd.ntmps10
      go_wp2_with fail
      go_ret
      exact ⟨false, rfl, rfl⟩
    · have d1 : (1048576 : Int) < (v.size : Int) := by omega
      go_enter Tryd.func10, Tryd.ntmps10
      go_wp2_with fail
      go_ret
      exact ⟨false, rfl, rfl⟩
  have e3 : decide ((1048576 : Int) < (v.size : Int)) = false := decide_eq_false (by omega)
  have s3 : decide ((1048576 : Int) < (l.length : Int) + (n.size : Int) + (v.size : Int)) = false := decide_eq_false (by omega)
  go_enter Tryd.func10, Tryd.ntmps10
  go_wp2_with fail
  go_ret
  exact ⟨true, rfl, rfl⟩

/-- Bytes at the head of a block. -/
def At8 (w : World) (g : Nat) (l : List UInt8) : Prop := ∀ j (h : j < l.length), w.cell? ⟨g, j, none⟩ = some (.int .u8 (l[j].toNat : Int))
theorem at8_own {w : World} {B g cap : Nat} {l : List UInt8} (h : w.ownsRow B 5 1 (.slice (some ⟨g, 0, none⟩) l.length cap) l.length (Lib.byteCells l)) : At8 w g l := fun j hj => by
  have := h.cells (g := g) rfl j (.int .u8 (l[j].toNat : Int)) (by simp [Lib.byteCells, hj])
  rwa [add_at0] at this
theorem At8.below {w w' : World} {g : Nat} {l : List UInt8} (h : At8 w g l) {B : Nat} (hb : Below B w w') (hg : g < B) : At8 w' g l := fun j hj => (hb.cell (p := ⟨g, j, none⟩) hg).trans (h j hj)
set_option maxHeartbeats 1000000 in
theorem same11 (l : List UInt8) (g1 g2 c d : Nat) (w : World) (hl : l.length ≤ 4194304) (h1 : At8 w g1 l) (h2 : At8 w g2 l) (k1 : g1 < w.heap.size) (k2 : g2 < w.heap.size) :
    Calls Tryd.prog 11 #[.slice (some ⟨g1, 0, none⟩) l.length c, .slice (some ⟨g2, 0, none⟩) l.length d] w fun e w' => e = .returned (.bool true) ∧ Below w.heap.size w w' := by
  have hne : ((l.length : Int) != (l.length : Int)) = false := by simp
  have H1 := hidW h1
  have H2 := hidW h2
  clear h1 h2
  go_enter Tryd.func11, Tryd.ntmps11
  go_wp2_with fail
  go_loopg [5] l.length (fun g i wx => ∃ k : Nat, k + g = l.length ∧ i = .int .i64 k ∧ Below w.heap.size w wx)
  case atStart => exact ⟨0, by omega, rfl, Below.refl _ _⟩
  case round =>
    obtain ⟨k, hkg, rfl, hbw⟩ := hrel
    by_cases hlt : k < l.length
    · have c1 := (hbw.cell (p := ⟨g1, k, none⟩) k1).trans (unhidW H1 k hlt)
      have c2 := (hbw.cell (p := ⟨g2, k, none⟩) k2).trans (unhidW H2 k hlt)
      generalize (l[k].toNat : Int) = x at *
      have HBW := hidW hbw
      clear hbw
      go_wp2_with fail
      go_quiet (fail)
      go_wp2_with fail
      go_roundg (l.length - (k + 1))
      case measure => omega
      case rel => exact ⟨k + 1, by omega, by go_num, below_drewN (unhidW HBW) _⟩
    · obtain rfl : k = l.length := by omega
      go_wp2_with fail
      go_ret
      exact ⟨rfl, hbw⟩
end Go.Proofs.Qxb6602105aDoor
