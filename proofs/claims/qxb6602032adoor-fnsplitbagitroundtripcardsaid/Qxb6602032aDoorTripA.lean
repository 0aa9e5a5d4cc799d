/-
  THE WALKS under FnSplitBagItRoundTrip: the byte guard, the terminator; the law at no line.
-/
import Derived.Test.Qxb6602032aDoorJoin
namespace Go.Proofs.Qxb6602032aDoor
open Go.RowKit Bag

def termB (k : Int) : ByteArray := if k = 0 then ⟨#[10]⟩ else if k = 1 then ⟨#[13]⟩ else ⟨#[13, 10]⟩
theorem term_is (k : Int) : isTerm (termB k).data.toList ∧ (termB k).size ≤ 2 := by
  unfold termB
  split
  · exact ⟨.inl rfl, by decide⟩
  · split
    · exact ⟨.inr (.inl rfl), by decide⟩
    · exact ⟨.inr (.inr rfl), by decide⟩
set_option maxHeartbeats 400000 in
theorem term10 (k : Int) (w : World) : Calls Tryd.prog 10 #[.int .u8 k] w fun e w' => e = .returned (.string (termB k)) ∧ w' = w := by
  by_cases h0 : k = 0
  · have h0' : (k == 0) = true := beq_iff_eq.2 h0
    have e : termB k = ⟨#[10]⟩ := by simp [termB, h0]
    rw [e]
    clear e h0
    go_enter Tryd.func10, Tryd.ntmps10
    go_wp2
    go_ret
    exact ⟨rfl, rfl⟩
  · have h0' : (k == 0) = false := beq_eq_false_iff_ne.2 h0
    by_cases h1 : k = 1
    · have h1' : (k == 1) = true := beq_iff_eq.2 h1
      have e : termB k = ⟨#[13]⟩ := by simp [termB, h1]
      rw [e]
      clear e h0 h1
      go_enter Tryd.func10, Tryd.ntmps10
      go_wp2
      go_ret
      exact ⟨rfl, rfl⟩
    · have h1' : (k == 1) = false := beq_eq_false_iff_ne.2 h1
      have e : termB k = ⟨#[13, 10]⟩ := by simp [termB, h0, h1]
      rw [e]
      clear e h0 h1
      go_enter Tryd.func10, Tryd.ntmps10
      go_wp2
      go_ret
      exact ⟨rfl, rfl⟩

def Gd (n : Nat) (w : World) (e : Ending) (w' : World) : Prop := ∃ b, e = .returned (.bool b) ∧ w' = w ∧ (b = true → n ≤ 1048576)
theorem gd_no (n : Nat) (w : World) : Gd n w (.returned (.bool false)) w := ⟨false, rfl, rfl, fun h => by cases h⟩
theorem gd_yes {n : Nat} (w : World) (h : n ≤ 1048576) : Gd n w (.returned (.bool true)) w := ⟨true, rfl, rfl, fun _ => h⟩
set_option maxHeartbeats 1000000 in
theorem zb9 (ls : List ByteArray) (ka : Option Addr) (kc : Nat) (k : Int) (f : Bool) (w : World) (hsrc : SrcS w ka ls) :
    Calls Tryd.prog 9 #[.slice ka ls.length kc, .int .u8 k, .bool f] w (Gd ls.length w) := by
  by_cases h2 : ls.length ≤ 1048576
  case neg =>
    have h2' : (1048576 : Int) < ls.length := by omega
    clear hsrc
    go_enter Tryd.func9, Tryd.ntmps9
    go_wp2_with fail
    go_ret
    exact gd_no ..
  have d2 : decide ((1048576 : Int) < ls.length) = false := decide_eq_false (by omega)
  rcases hsrc with rfl | ⟨b, o, rfl, hb, hsrc⟩
  · simp only [List.length_nil] at h2 d2 ⊢
    clear d2
    go_enter Tryd.func9, Tryd.ntmps9
    go_wp2_with fail
    refine wp_loop_rounds 1 ?_
    rw [rounds_succ]
    go_wp2_with fail
    go_ret
    exact gd_yes _ h2
  · have HS := hide hsrc
    clear hsrc
    go_enter Tryd.func9, Tryd.ntmps9
    go_wp2_with fail
    go_loop [7, 8] (fun z i => ∃ k t : Nat, k ≤ ls.length ∧ i = .int .i64 k ∧ z = .int .i64 t ∧ t ≤ 1048576) (fun _ i => (ls.length : Int).toNat - (intOf i).toNat)
    case atStart => exact ⟨0, ls.length, Nat.zero_le _, rfl, by go_num, h2⟩
    case round =>
      obtain ⟨k, t, hk, rfl, rfl, ht⟩ := hrel
      by_cases hlt : k < ls.length
      · have ck := unhide HS k hlt
        generalize ls.getD k ByteArray.empty = key at *
        by_cases q1 : key.size ≤ 1048576
        · by_cases q2 : t + key.size ≤ 1048576
          · go_wp2_with fail
            go_round
            case rel => exact ⟨k + 1, t + key.size, by omega, by go_num, by go_num, q2⟩
            case measure => simp [intOf]; omega
          · have q2' : (1048576 : Int) < t + key.size := by omega
            go_wp2_with fail
            go_ret
            exact gd_no ..
        · have q1' : (1048576 : Int) < key.size := by omega
          go_wp2_with fail
          go_ret
          exact gd_no ..
      · have hk' : ¬ ((k : Int) < (ls.length : Int)) := by omega
        clear hlt
        go_wp2_with fail
        go_ret
        exact gd_yes _ h2

set_option maxRecDepth 100000 in
set_option maxHeartbeats 1000000 in
theorem law4_empty (ka : Option Addr) (kc : Nat) (k : Int) (f : Bool) (w : World) :
    Calls Tryd.prog 4 #[.slice ka 0 kc, .int .u8 k, .bool f] w fun e w' => e = .returned (.bool true) ∧ Below w.heap.size w w' := by
  have H9 := hide (zb9 [] ka kc k f w (.inl rfl))
  go_enter Tryd.func4, Tryd.ntmps4
  go_wp2_with fail
  refine (unhide H9).mono ?_
  rintro e w1 ⟨b, rfl, rfl, _⟩
  cases b
  · go_wp2_with fail
    go_ret
    exact ⟨rfl, Below.refl _ _⟩
  · go_wp2_with fail
    refine wp_loop_rounds 1 ?_
    rw [rounds_succ]
    go_wp2_with fail
    go_ret
    exact ⟨rfl, Below.refl _ _⟩
end Go.Proofs.Qxb6602032aDoor
