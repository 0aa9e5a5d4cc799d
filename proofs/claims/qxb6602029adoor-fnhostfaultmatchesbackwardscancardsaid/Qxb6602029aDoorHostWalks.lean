/-
  THE WALKS of FnHostFaultMatchesBackwardScan and of what it calls. strings.LastIndexByte and strings.Trim by the shelf's contracts, laid at this dump.
-/
import Derived.Test.Qxb6602029aDoorProg
import Derived.Test.Qxb6602029aDoorHostShelf
import Derived.Test.Qxb6602029aDoorHostPlain
import Derived.Lib.IndexBytes
import Derived.WalkKit
import Derived.WalkSpells
import Derived.WalkLawsBesides
namespace Go.Proofs.Qxb6602029aDoor
open Go.RowKit Host

theorem hide {p : Prop} (h : p) : Hid p := h
theorem unhide {p : Prop} (h : Hid p) : p := h

set_option maxHeartbeats 400000 in
theorem zzBytes8 (s : ByteArray) (w : World) (hs : s.size ≤ 1048576) :
    Calls Tryd.prog 8 #[.string s] w fun e w' => e = .returned (.bool true) ∧ w' = w := by
  go_enter Tryd.func8, Tryd.ntmps8
  go_wp2
  go_ret
  exact ⟨rfl, rfl⟩
set_option maxHeartbeats 400000 in
theorem zzBytes8_no (s : ByteArray) (w : World) (hs : 1048576 < s.size) :
    Calls Tryd.prog 8 #[.string s] w fun e w' => e = .returned (.bool false) ∧ w' = w := by
  have h : (1048576 : Int) < s.size := by omega
  go_enter Tryd.func8, Tryd.ntmps8
  go_wp2
  go_ret
  exact ⟨rfl, rfl⟩

def portS : ByteArray := ⟨#[112, 111, 114, 116, 32, 110, 111, 116, 32, 97, 32, 110, 117, 109, 98, 101, 114, 32, 117, 112, 32, 116, 111, 32, 54, 53, 53, 51, 53]⟩
def nahS : ByteArray := ⟨#[110, 111, 116, 32, 97, 32, 104, 111, 115, 116, 32, 110, 97, 109, 101, 44, 32, 97, 110, 32, 73, 80, 118, 52, 32, 97, 100, 100, 114, 101, 115, 115, 32, 111, 114, 32, 97, 110, 32, 73, 80, 118, 54, 32, 97, 100, 100, 114, 101, 115, 115, 32, 105, 110, 32, 98, 114, 97, 99, 107, 101, 116, 115]⟩
def msg (b : Bool) : ByteArray := if b then portS else nahS

theorem ret_bool {a b : Bool} (h : a = b) : Ending.returned (.bool a) = .returned (.bool b) := by rw [h]
theorem bt_at (s : ByteArray) (k : Nat) (h : k < s.size) : s[k].toNat = bt s k := by
  unfold bt
  rw [getElem!_pos s.data k h]
  rfl
theorem eq_nah {s : ByteArray} (h : faultB s = false) : ((msg (faultB s)).toList == nahS.toList) = true := by
  rw [h]; exact beq_self_eq_true _
theorem eq_port {s : ByteArray} (h : faultB s = true) : ((msg (faultB s)).toList == [112, 111, 114, 116, 32, 110, 111, 116, 32, 97, 32, 110, 117, 109, 98, 101, 114, 32, 117, 112, 32, 116, 111, 32, 54, 53, 53, 51, 53]) = true := by
  rw [h]
  show (portS.toList == _) = true
  rw [Lib.toList_data]
  exact beq_self_eq_true _
theorem ne_of_int {n m : Nat} (h : ((n : Int) == (m : Int)) = false) : n ≠ m := by
  have := beq_eq_false_iff_ne.1 h
  omega
theorem eq_of_int {n m : Nat} (h : ((n : Int) == (m : Int)) = true) : n = m := by
  have := beq_iff_eq.1 h
  omega
theorem saw_non {s : ByteArray} {k : Nat} (hk : k < s.size) (h : ¬ (48 ≤ (s[k].toNat : Int) ∧ (s[k].toNat : Int) ≤ 57)) : saw s k = true := by
  rw [saw_step s k hk, ← bt_at s k hk]
  simp
  omega
theorem saw_dig {s : ByteArray} {k : Nat} (hk : k < s.size) (h : 48 ≤ (s[k].toNat : Int) ∧ (s[k].toNat : Int) ≤ 57) : saw s k = saw s (k + 1) := by
  rw [saw_step s k hk, ← bt_at s k hk]
  have h1 : ¬ s[k].toNat < 48 := by omega
  have h2 : ¬ 57 < s[k].toNat := by omega
  simp [h1, h2]
set_option maxHeartbeats 400000 in
theorem law3 (s : ByteArray) (w : World) (hs : s.size ≤ 1048576)
    (h9 : ∀ w, Calls Tryd.prog 9 #[.string s] w fun e w' => e = .returned (.string (msg (faultB s))) ∧ Below w.heap.size w w') :
    Calls Tryd.prog 3 #[.string s] w fun e w' => e = .returned (.bool true) ∧ Below w.heap.size w w' := by
  have H9 : Hid (∀ w, Calls Tryd.prog 9 #[.string s] w fun e w' => e = .returned (.string (msg (faultB s))) ∧ Below w.heap.size w w') := h9
  clear h9
  have hd : decide ((1048576 : Int) < s.size) = false := decide_eq_false (by omega)
  go_enter Tryd.func3, Tryd.ntmps3
  go_wp2_with fail
  refine (zzBytes8 s _ hs).mono ?_
  rintro e w' ⟨rfl, rfl⟩
  go_wp2_with fail
  refine (H9.out _).mono ?_
  rintro e w1 ⟨rfl, hb⟩
  go_wp2_with fail
  go_loop [4, 5, 6] (fun want sw i => ∃ k : Nat, k ≤ s.size ∧ i = .int .i64 ((k : Int) - 1) ∧ sw = .bool (saw s k) ∧ want = .string nahS ∧ Clear s k) (fun _ _ i => (intOf i + 1).toNat)
  case atStart => exact ⟨s.size, Nat.le_refl _, rfl, by rw [saw_top], rfl, clear_top s⟩
  case round =>
    obtain ⟨k, hk, rfl, rfl, rfl, hc⟩ := hrel
    have HC : Hid (Clear s k) := hc
    clear hc
    cases k with
    | zero =>
      go_wp2
      go_ret
      exact ⟨ret_bool (eq_nah (at_end s HC.out)), hb⟩
    | succ k =>
      have hks : k < s.size := by omega
      have hi : ((k + 1 : Nat) : Int) - 1 = (k : Int) := by omega
      rw [hi]
      go_wp2_with fail
      · go_ret
        exact ⟨ret_bool (eq_port ((at_colon s k hks (by rw [← bt_at s k hks]; exact eq_of_int ‹_›) HC.out).trans ‹_›)), hb⟩
      · go_ret
        exact ⟨ret_bool (eq_nah ((at_colon s k hks (by rw [← bt_at s k hks]; exact eq_of_int ‹_›) HC.out).trans ‹_›)), hb⟩
      · go_ret
        exact ⟨ret_bool (eq_nah (at_bracket s k hks (by rw [← bt_at s k hks]; exact eq_of_int ‹(((s[k].toNat : Nat) : Int) == 93) = true›) HC.out)), hb⟩
      all_goals
        have HC2 : Clear s k := clear_step s k (by rw [← bt_at s k hks]; exact ne_of_int ‹(((s[k].toNat : Nat) : Int) == 58) = false›) (by rw [← bt_at s k hks]; exact ne_of_int ‹(((s[k].toNat : Nat) : Int) == 93) = false›) HC.out
      · exact ⟨⟨k, by omega, rfl, by rw [saw_non hks (by omega)], rfl, HC2⟩, by simp [intOf]⟩
      · exact ⟨⟨k, by omega, rfl, by rw [saw_dig hks ‹_›], rfl, HC2⟩, by simp [intOf]⟩
      · exact ⟨⟨k, by omega, rfl, by rw [saw_non hks (by omega)], rfl, HC2⟩, by simp [intOf]⟩


set_option maxHeartbeats 400000 in
theorem host22 (s : ByteArray) (w : World) (hs : s.size ≤ 1048576)
    (h31 : ∀ (c : Int) (w : World), Calls Tryd.prog 31 #[.string s, .int .u8 c] w fun e w' => e = .returned (.int .i64 (Lib.lastIndexByte s c)) ∧ w' = w)
    (h32 : ∀ (t : ByteArray) (w : World), t.size ≤ 9223372036854775807 → Calls Tryd.prog 32 #[.string t, .string ⟨#[48, 49, 50, 51, 52, 53, 54, 55, 56, 57]⟩] w fun e w' => e = .returned (.string ⟨(Lib.trimS t.data.toList ds).toArray⟩) ∧ Below w.heap.size w w') :
    Calls Tryd.prog 22 #[.string s] w fun e w' => e = .returned (.string (msg (faultB s))) ∧ Below w.heap.size w w' := by
  have H31 := hide h31
  have H32 := hide h32
  clear h31 h32
  obtain ⟨a1, a2⟩ := last_ge s 58
  obtain ⟨b1, b2⟩ := last_ge s 93
  have HF := hide (show faultB s = (decide (Lib.lastIndexByte s 93 < Lib.lastIndexByte s 58) && !(Lib.trimS (s.data.toList.drop (Lib.lastIndexByte s 58 + 1).toNat) ds).isEmpty) from rfl)
  generalize hA : Lib.lastIndexByte s 58 = A at *
  generalize hB : Lib.lastIndexByte s 93 = B at *
  have HA := hide hA
  have HB := hide hB
  clear hA hB
  by_cases hlt : B < A
  · have hA0 : 0 ≤ A := by omega
    obtain ⟨k, rfl⟩ := Int.eq_ofNat_of_zero_le hA0
    have hks : k < s.size := by omega
    go_enter Tryd.func22, Tryd.ntmps22
    go_wp2_with fail
    refine (unhide H31 58 _).mono ?_
    rintro e w1 ⟨rfl, rfl⟩
    rw [unhide HA]
    go_wp2_with fail
    refine (unhide H31 93 _).mono ?_
    rintro e w2 ⟨rfl, rfl⟩
    rw [unhide HB]
    go_wp2_with fail
    have hsz : (s.extract (k + 1) s.size).size ≤ 9223372036854775807 := by simp; omega
    refine (unhide H32 _ _ hsz).mono ?_
    rintro e w3 ⟨rfl, hb⟩
    have HF2 : Hid (faultB s = !(Lib.trimS (s.extract (k + 1) s.size).data.toList ds).isEmpty) := by
      refine hide ?_
      rw [unhide HF, decide_eq_true hlt, Bool.true_and, Lib.extract_to_end, show ((k : Int) + 1).toNat = k + 1 by omega]
    clear HF
    generalize Lib.trimS (s.extract (k + 1) s.size).data.toList ds = l at *
    cases l with
    | nil =>
      go_wp2
      go_ret
      exact ⟨by rw [unhide HF2]; rfl, hb⟩
    | cons x l =>
      go_wp2
      go_ret
      exact ⟨by rw [unhide HF2]; rfl, hb⟩
  · have hd : decide (B < A) = false := decide_eq_false hlt
    go_enter Tryd.func22, Tryd.ntmps22
    go_wp2_with fail
    refine (unhide H31 58 _).mono ?_
    rintro e w1 ⟨rfl, rfl⟩
    rw [unhide HA]
    go_wp2_with fail
    refine (unhide H31 93 _).mono ?_
    rintro e w2 ⟨rfl, rfl⟩
    rw [unhide HB]
    go_wp2_with fail
    go_ret
    exact ⟨by rw [unhide HF, hd]; rfl, Below.refl _ _⟩

theorem last31 (s : ByteArray) (hs : s.size ≤ 1048576) (c : Int) (w : World) : Calls Tryd.prog 31 #[.string s, .int .u8 c] w fun e w' => e = .returned (.int .i64 (Lib.lastIndexByte s c)) ∧ w' = w :=
  Any.strings_LastIndexByte Tryd.lays149 s c (by omega) w
theorem trim32 (t : ByteArray) (w : World) (ht : t.size ≤ 9223372036854775807) : Calls Tryd.prog 32 #[.string t, .string ⟨#[48, 49, 50, 51, 52, 53, 54, 55, 56, 57]⟩] w fun e w' => e = .returned (.string ⟨(Lib.trimS t.data.toList ds).toArray⟩) ∧ Below w.heap.size w w' :=
  Any.strings_Trim_laid Tryd.lays160 (by kernel_rfl) t ⟨#[48, 49, 50, 51, 52, 53, 54, 55, 56, 57]⟩ w ht (by decide) (ascii_of_all (by decide))
set_option maxHeartbeats 400000 in
theorem host9 (s : ByteArray) (w : World) (hs : s.size ≤ 1048576) :
    Calls Tryd.prog 9 #[.string s] w fun e w' => e = .returned (.string (msg (faultB s))) ∧ Below w.heap.size w w' := by
  have H := hide (host22 s w hs (last31 s hs) trim32)
  generalize msg (faultB s) = m at *
  go_enter Tryd.func9, Tryd.ntmps9
  go_wp2_with fail
  refine (unhide H).mono ?_
  rintro e w1 ⟨rfl, hb⟩
  go_wp2_with fail
  go_ret
  exact ⟨rfl, hb⟩
set_option maxHeartbeats 400000 in
theorem law3_no (s : ByteArray) (w : World) (hs : 1048576 < s.size) :
    Calls Tryd.prog 3 #[.string s] w fun e w' => e = .returned (.bool true) ∧ Below w.heap.size w w' := by
  go_enter Tryd.func3, Tryd.ntmps3
  go_wp2_with fail
  refine (zzBytes8_no s _ hs).mono ?_
  rintro e w' ⟨rfl, rfl⟩
  go_wp2_with fail
  go_ret
  exact ⟨rfl, Below.refl _ _⟩
theorem law3_all (s : ByteArray) (w : World) : Calls Tryd.prog 3 #[.string s] w fun e w' => e = .returned (.bool true) ∧ Below w.heap.size w w' := by
  by_cases h : s.size ≤ 1048576
  · exact law3 s w h fun w => host9 s w h
  · exact law3_no s w (by omega)
end Go.Proofs.Qxb6602029aDoor
