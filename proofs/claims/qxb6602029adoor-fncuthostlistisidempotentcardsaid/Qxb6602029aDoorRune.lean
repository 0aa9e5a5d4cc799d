/-
  strings.IndexRune over the three bytes of slash, question mark, hash at a rune beyond ASCII: -1. Walked over this dump.
-/
import Derived.Test.Qxb6602029aDoorCutShelf
import Derived.WalkKit
import Derived.WalkSpells
import Derived.WalkLawsBesides
import Derived.Laws.RangeAny
import Derived.Deep.QuietTactic
import Derived.BigQuiet
import Derived.WalkMore
namespace Go.Proofs.Qxb6602029aDoor
open Go.RowKit

theorem hide {p : Prop} (h : p) : Hid p := h
theorem unhide {p : Prop} (h : Hid p) : p := h

def cs3 : ByteArray := ⟨#[47, 63, 35]⟩

theorem ib65 (s : ByteArray) (c : Int) (w : World) : Calls Tryd.prog 65 #[.string s, .int .u8 c] w fun e w' => e = .returned (.int .i64 (Lib.indexByte s.data.toList c.toNat.toUInt8)) ∧ w' = w :=
  Any.strings_IndexByte Tryd.lays137 s c w
theorem vr66 (r : Int) (w : World) : Calls Tryd.prog 66 #[.int .i32 r] w fun e w' => e = .returned (.bool (Lib.validRune r)) ∧ w' = w := Any.utf8_ValidRune Tryd.lays119 r w

set_option maxHeartbeats 1000000 in
set_option maxRecDepth 100000 in
theorem ir_bad (r : Int) (w : World) (h0 : 128 ≤ r) (he : (r == 65533) = false) (hv : Lib.validRune r = false) :
    Calls Tryd.prog 56 #[.string ⟨#[47, 63, 35]⟩, .int .i32 r] w fun e w' => e = .returned (.int .i64 (-1)) ∧ Below w.heap.size w w' := by
  go_enter Tryd.func56, Tryd.ntmps56
  go_wp2_with (go_at_call 66; refine (vr66 _ _).mono ?_; rintro e w' ⟨rfl, rfl⟩)
  go_ret
  exact ⟨rfl, Below.refl _ _⟩

set_option maxHeartbeats 1000000 in
set_option maxRecDepth 100000 in
theorem ir_err (w : World) :
    Calls Tryd.prog 56 #[.string ⟨#[47, 63, 35]⟩, .int .i32 65533] w fun e w' => e = .returned (.int .i64 (-1)) ∧ Below w.heap.size w w' := by
  have n0 := fun ty => run_next_ascii (P := Tryd.prog) w ⟨#[47, 63, 35]⟩ 0 ty (by decide) (by decide)
  have n1 := fun ty => run_next_ascii (P := Tryd.prog) w ⟨#[47, 63, 35]⟩ 1 ty (by decide) (by decide)
  have n2 := fun ty => run_next_ascii (P := Tryd.prog) w ⟨#[47, 63, 35]⟩ 2 ty (by decide) (by decide)
  have n3 := fun ty => run_next_end (P := Tryd.prog) w ⟨#[47, 63, 35]⟩ 3 ty (by decide)
  go_enter Tryd.func56, Tryd.ntmps56
  go_wp2_with fail
  refine wp_loop_rounds 4 ?_
  rw [rounds_succ]
  go_wp2
  rw [rounds_succ]
  go_wp2
  rw [rounds_succ]
  go_wp2
  rw [rounds_succ]
  go_wp2
  go_ret
  exact ⟨rfl, (Below.refl _ _).alloc (Nat.le_refl _) _⟩

theorem indexByte_high (c : UInt8) (hc : 128 ≤ c.toNat) : ∀ l : List UInt8, l.all (fun b => decide (b.toNat < 128)) = true → Lib.indexByte l c = -1
  | [], _ => rfl
  | b :: l, h => by
    simp only [List.all_cons, Bool.and_eq_true, decide_eq_true_eq] at h
    have hb : (b == c) = false := by rw [beq_eq_false_iff_ne]; intro e; subst e; omega
    unfold Lib.indexByte
    rw [hb, indexByte_high c hc l h.2]
    rfl
theorem ib65_none (t : ByteArray) (c : UInt8) (w : World) (hc : 128 ≤ c.toNat) (ht : t.data.toList.all (fun b => decide (b.toNat < 128)) = true) :
    Calls Tryd.prog 65 #[.string t, .int .u8 c.toNat] w fun e w' => e = .returned (.int .i64 (-1)) ∧ w' = w := by
  have := ib65 t c.toNat w
  rw [show ((c.toNat : Int)).toNat.toUInt8 = c by simp, indexByte_high c hc _ ht] at this
  exact this
set_option maxHeartbeats 1000000 in
set_option maxRecDepth 100000 in
theorem ir_two (r : Int) (rs : ByteArray) (w : World) (h0 : 128 ≤ r) (he : (r == 65533) = false) (hv : Lib.validRune r = true) (hrs : Utf8.encode r = rs) (hsz : rs.size = 2) (hy : 128 ≤ (rs[1]'(by omega)).toNat) :
    Calls Tryd.prog 56 #[.string ⟨#[47, 63, 35]⟩, .int .i32 r] w fun e w' => e = .returned (.int .i64 (-1)) ∧ Below w.heap.size w w' := by
  have hne : ((((⟨#[47, 63, 35]⟩ : ByteArray)[1]'(by decide)).toNat : Int) != ((rs[1]'(by omega)).toNat : Int)) = true := by
    rw [bne_iff_ne]; show (63 : Int) ≠ _; omega
  have hd : decide (r < 128) = false := decide_eq_false (by omega)
  go_enter Tryd.func56, Tryd.ntmps56
  go_wp2_with (go_at_call 66; refine (vr66 _ _).mono ?_; rintro e w' ⟨rfl, rfl⟩)
  go_step3
  go_wp2_with fail
  refine wp_loop_rounds 1 ?_
  rw [rounds_succ]
  go_wp2_with fail
  go_step3
  go_wp2_with fail
  go_quiet (fail)
  have hb1 := below_drewN (Below.refl w'.heap.size w') nq
  generalize w'.drewN nq = w1 at *
  go_wp2_with fail
  go_quiet ((go_at_call 65; exact Calls.quiet_of_same (ib65_none _ _ _ hy (by decide))))
  go_wp2_with fail
  rw [Exit.noGoto_ret]
  go_wp2_with fail
  rw [Exit.noGoto_ret]
  go_ret
  exact ⟨rfl, below_drewN hb1 _⟩
set_option maxHeartbeats 1000000 in
set_option maxRecDepth 100000 in
theorem ir_three (r : Int) (rs : ByteArray) (w : World) (h0 : 128 ≤ r) (he : (r == 65533) = false) (hv : Lib.validRune r = true) (hrs : Utf8.encode r = rs) (hsz : rs.size = 3) (hy : 128 ≤ (rs[2]'(by omega)).toNat) :
    Calls Tryd.prog 56 #[.string ⟨#[47, 63, 35]⟩, .int .i32 r] w fun e w' => e = .returned (.int .i64 (-1)) ∧ Below w.heap.size w w' := by
  have hne : ((((⟨#[47, 63, 35]⟩ : ByteArray)[2]'(by decide)).toNat : Int) != ((rs[2]'(by omega)).toNat : Int)) = true := by
    rw [bne_iff_ne]; show (35 : Int) ≠ _; omega
  have hd : decide (r < 128) = false := decide_eq_false (by omega)
  go_enter Tryd.func56, Tryd.ntmps56
  go_wp2_with (go_at_call 66; refine (vr66 _ _).mono ?_; rintro e w' ⟨rfl, rfl⟩)
  go_step3
  go_wp2_with fail
  refine wp_loop_rounds 1 ?_
  rw [rounds_succ]
  go_wp2_with fail
  go_step3
  go_wp2_with fail
  go_quiet (fail)
  have hb1 := below_drewN (Below.refl w'.heap.size w') nq
  generalize w'.drewN nq = w1 at *
  go_wp2_with fail
  go_quiet ((go_at_call 65; exact Calls.quiet_of_same (ib65_none _ _ _ hy (by decide))))
  go_wp2_with fail
  rw [Exit.noGoto_ret]
  go_wp2_with fail
  rw [Exit.noGoto_ret]
  go_ret
  exact ⟨rfl, below_drewN hb1 _⟩
set_option maxHeartbeats 1000000 in
set_option maxRecDepth 100000 in
theorem ir_four (r : Int) (rs : ByteArray) (w : World) (h0 : 128 ≤ r) (he : (r == 65533) = false) (hv : Lib.validRune r = true) (hrs : Utf8.encode r = rs) (hsz : rs.size = 4) :
    Calls Tryd.prog 56 #[.string ⟨#[47, 63, 35]⟩, .int .i32 r] w fun e w' => e = .returned (.int .i64 (-1)) ∧ Below w.heap.size w w' := by
  have hd : decide (r < 128) = false := decide_eq_false (by omega)
  go_enter Tryd.func56, Tryd.ntmps56
  go_wp2_with (go_at_call 66; refine (vr66 _ _).mono ?_; rintro e w' ⟨rfl, rfl⟩)
  go_step3
  go_wp2_with fail
  refine wp_loop_rounds 1 ?_
  rw [rounds_succ]
  go_wp2_with fail
  rw [Exit.noGoto_ret]
  go_ret
  exact ⟨rfl, Below.refl _ _⟩
end Go.Proofs.Qxb6602029aDoor
