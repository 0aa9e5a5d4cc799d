/-
  THE BYTE GUARDS of the two laws over cutHostList (functions 13 and 21: one text), and roleTooBig (14): each returns a bool and turns nothing; where the answer lets the law go on, the lengths are bounded.
-/
import Derived.Test.Qxb6602029aDoorRune
namespace Go.Proofs.Qxb6602029aDoor
open Go.RowKit

/-- Where the strings of a slice lie: nothing is said of an empty one. -/
def SrcS (w : World) (a : Option Addr) (ks : List ByteArray) : Prop := ks = [] ∨ ∃ b o, a = some ⟨b, o, none⟩ ∧ b < w.heap.size ∧ ∀ i, i < ks.length → w.cell? ⟨b, o + i, none⟩ = some (.string (ks.getD i ByteArray.empty))
def SrcB (w : World) (a : Option Addr) (fs : List Bool) : Prop := fs = [] ∨ ∃ b o, a = some ⟨b, o, none⟩ ∧ b < w.heap.size ∧ ∀ i, i < fs.length → w.cell? ⟨b, o + i, none⟩ = some (.bool (fs.getD i false))
theorem SrcS.below {w w' : World} {a : Option Addr} {ks : List ByteArray} (h : SrcS w a ks) (hb : Below w.heap.size w w') : SrcS w' a ks := by
  rcases h with h | ⟨b, o, h1, h2, h3⟩
  · exact .inl h
  · exact .inr ⟨b, o, h1, Nat.lt_of_lt_of_le h2 hb.size, fun i hi => (hb.cell (p := ⟨b, o + i, none⟩) h2).trans (h3 i hi)⟩
theorem SrcB.below {w w' : World} {a : Option Addr} {fs : List Bool} (h : SrcB w a fs) (hb : Below w.heap.size w w') : SrcB w' a fs := by
  rcases h with h | ⟨b, o, h1, h2, h3⟩
  · exact .inl h
  · exact .inr ⟨b, o, h1, Nat.lt_of_lt_of_le h2 hb.size, fun i hi => (hb.cell (p := ⟨b, o + i, none⟩) h2).trans (h3 i hi)⟩

def Gd (name raw : ByteArray) (kl hl : Nat) (w : World) (e : Ending) (w' : World) : Prop :=
  ∃ b, e = .returned (.bool b) ∧ w' = w ∧ (b = true → name.size ≤ 1048576 ∧ kl ≤ 1048576 ∧ hl ≤ 1048576 ∧ raw.size ≤ 1048576)
theorem gd_no (name raw : ByteArray) (kl hl : Nat) (w : World) : Gd name raw kl hl w (.returned (.bool false)) w := ⟨false, rfl, rfl, fun h => by cases h⟩
theorem gd_yes {name raw : ByteArray} {kl hl : Nat} (w : World) (h : name.size ≤ 1048576 ∧ kl ≤ 1048576 ∧ hl ≤ 1048576 ∧ raw.size ≤ 1048576) : Gd name raw kl hl w (.returned (.bool true)) w := ⟨true, rfl, rfl, fun _ => h⟩

set_option maxHeartbeats 2000000 in
theorem zb13 (name raw : ByteArray) (ks : List ByteArray) (ka ha : Option Addr) (kc hl hc : Nat) (w : World) (hsrc : SrcS w ka ks) :
    Calls Tryd.prog 13 #[.string name, .slice ka ks.length kc, .slice ha hl hc, .string raw] w (Gd name raw ks.length hl w) := by
  by_cases h1 : name.size ≤ 1048576
  case neg =>
    have h1' : (1048576 : Int) < name.size := by omega
    clear hsrc
    go_enter Tryd.func13, Tryd.ntmps13
    go_wp2_with fail
    go_ret
    exact gd_no ..
  by_cases h2 : ks.length ≤ 1048576
  case neg =>
    have h2' : (1048576 : Int) < ks.length := by omega
    clear hsrc
    go_enter Tryd.func13, Tryd.ntmps13
    go_wp2_with fail
    go_ret
    exact gd_no ..
  by_cases h3 : name.size + ks.length ≤ 1048576
  case neg =>
    have h3' : (1048576 : Int) < name.size + ks.length := by omega
    clear hsrc
    go_enter Tryd.func13, Tryd.ntmps13
    go_wp2_with fail
    go_ret
    exact gd_no ..
  have d1 : decide ((1048576 : Int) < name.size) = false := decide_eq_false (by omega)
  have d2 : decide ((1048576 : Int) < ks.length) = false := decide_eq_false (by omega)
  have d3 : decide ((1048576 : Int) < name.size + ks.length) = false := decide_eq_false (by omega)
  rcases hsrc with rfl | ⟨b, o, rfl, hb, hsrc⟩
  · simp only [List.length_nil, Nat.add_zero] at h2 h3 d2 d3 ⊢
    clear d2 d3
    go_enter Tryd.func13, Tryd.ntmps13
    go_wp2_with fail
    refine wp_loop_rounds 1 ?_
    rw [rounds_succ]
    obtain ⟨t, ht⟩ : ∃ t, name.size = t := ⟨_, rfl⟩
    have h1' : t ≤ 1048576 := by omega
    rw [ht]
    clear d1 h3
    rw [ht] at h1
    have HT := hide ht
    clear ht
    by_cases q1 : hl ≤ 1048576
    · by_cases q2 : t + hl ≤ 1048576
      · by_cases q3 : raw.size ≤ 1048576
        · by_cases q4 : t + hl + raw.size ≤ 1048576
          · go_wp2_with fail
            go_ret
            exact gd_yes _ ⟨by rw [unhide HT]; exact h1, h2, q1, q3⟩
          · have q4' : (1048576 : Int) < t + hl + raw.size := by omega
            go_wp2_with fail
            go_ret
            exact gd_no ..
        · have q3' : (1048576 : Int) < raw.size := by omega
          go_wp2_with fail
          go_ret
          exact gd_no ..
      · have q2' : (1048576 : Int) < t + hl := by omega
        go_wp2_with fail
        go_ret
        exact gd_no ..
    · have q1' : (1048576 : Int) < hl := by omega
      go_wp2_with fail
      go_ret
      exact gd_no ..
  · have HS := hide hsrc
    clear hsrc
    go_enter Tryd.func13, Tryd.ntmps13
    go_wp2_with fail
    go_loop [9, 10] (fun z i => ∃ k t : Nat, k ≤ ks.length ∧ i = .int .i64 k ∧ z = .int .i64 t ∧ t ≤ 1048576) (fun _ i => (ks.length : Int).toNat - (intOf i).toNat)
    case atStart => exact ⟨0, name.size + ks.length, Nat.zero_le _, rfl, by go_num, h3⟩
    case round =>
      obtain ⟨k, t, hk, rfl, rfl, ht⟩ := hrel
      by_cases hlt : k < ks.length
      · have ck := unhide HS k hlt
        generalize ks.getD k ByteArray.empty = key at *
        by_cases q1 : key.size ≤ 1048576
        · by_cases q2 : t + key.size ≤ 1048576
          · go_wp2_with fail
            go_round
            case rel => exact ⟨k + 1, t + key.size, by omega, by go_num, by go_num, q2⟩
            case measure => simp [intOf]; omega
          · have q2' : (1048576 : Int) < t + key.size := by omega
            go_wp2_with fail
            go_ret
            exact gd_no ..
        · have q1' : (1048576 : Int) < key.size := by omega
          go_wp2_with fail
          go_ret
          exact gd_no ..
      · have hk' : ¬ ((k : Int) < (ks.length : Int)) := by omega
        clear hlt
        by_cases q1 : hl ≤ 1048576
        · by_cases q2 : t + hl ≤ 1048576
          · by_cases q3 : raw.size ≤ 1048576
            · by_cases q4 : t + hl + raw.size ≤ 1048576
              · go_wp2_with fail
                go_ret
                exact gd_yes _ ⟨h1, h2, q1, q3⟩
              · have q4' : (1048576 : Int) < t + hl + raw.size := by omega
                go_wp2_with fail
                go_ret
                exact gd_no ..
            · have q3' : (1048576 : Int) < raw.size := by omega
              go_wp2_with fail
              go_ret
              exact gd_no ..
          · have q2' : (1048576 : Int) < t + hl := by omega
            go_wp2_with fail
            go_ret
            exact gd_no ..
        · have q1' : (1048576 : Int) < hl := by omega
          go_wp2_with fail
          go_ret
          exact gd_no ..

set_option maxHeartbeats 2000000 in
theorem zb21 (name raw : ByteArray) (ks : List ByteArray) (ka ha : Option Addr) (kc hl hc : Nat) (w : World) (hsrc : SrcS w ka ks) :
    Calls Tryd.prog 21 #[.string name, .slice ka ks.length kc, .slice ha hl hc, .string raw] w (Gd name raw ks.length hl w) := by
  by_cases h1 : name.size ≤ 1048576
  case neg =>
    have h1' : (1048576 : Int) < name.size := by omega
    clear hsrc
    go_enter Tryd.func21, Tryd.ntmps21
    go_wp2_with fail
    go_ret
    exact gd_no ..
  by_cases h2 : ks.length ≤ 1048576
  case neg =>
    have h2' : (1048576 : Int) < ks.length := by omega
    clear hsrc
    go_enter Tryd.func21, Tryd.ntmps21
    go_wp2_with fail
    go_ret
    exact gd_no ..
  by_cases h3 : name.size + ks.length ≤ 1048576
  case neg =>
    have h3' : (1048576 : Int) < name.size + ks.length := by omega
    clear hsrc
    go_enter Tryd.func21, Tryd.ntmps21
    go_wp2_with fail
    go_ret
    exact gd_no ..
  have d1 : decide ((1048576 : Int) < name.size) = false := decide_eq_false (by omega)
  have d2 : decide ((1048576 : Int) < ks.length) = false := decide_eq_false (by omega)
  have d3 : decide ((1048576 : Int) < name.size + ks.length) = false := decide_eq_false (by omega)
  rcases hsrc with rfl | ⟨b, o, rfl, hb, hsrc⟩
  · simp only [List.length_nil, Nat.add_zero] at h2 h3 d2 d3 ⊢
    clear d2 d3
    go_enter Tryd.func21, Tryd.ntmps21
    go_wp2_with fail
    refine wp_loop_rounds 1 ?_
    rw [rounds_succ]
    obtain ⟨t, ht⟩ : ∃ t, name.size = t := ⟨_, rfl⟩
    have h1' : t ≤ 1048576 := by omega
    rw [ht]
    clear d1 h3
    rw [ht] at h1
    have HT := hide ht
    clear ht
    by_cases q1 : hl ≤ 1048576
    · by_cases q2 : t + hl ≤ 1048576
      · by_cases q3 : raw.size ≤ 1048576
        · by_cases q4 : t + hl + raw.size ≤ 1048576
          · go_wp2_with fail
            go_ret
            exact gd_yes _ ⟨by rw [unhide HT]; exact h1, h2, q1, q3⟩
          · have q4' : (1048576 : Int) < t + hl + raw.size := by omega
            go_wp2_with fail
            go_ret
            exact gd_no ..
        · have q3' : (1048576 : Int) < raw.size := by omega
          go_wp2_with fail
          go_ret
          exact gd_no ..
      · have q2' : (1048576 : Int) < t + hl := by omega
        go_wp2_with fail
        go_ret
        exact gd_no ..
    · have q1' : (1048576 : Int) < hl := by omega
      go_wp2_with fail
      go_ret
      exact gd_no ..
  · have HS := hide hsrc
    clear hsrc
    go_enter Tryd.func21, Tryd.ntmps21
    go_wp2_with fail
    go_loop [9, 10] (fun z i => ∃ k t : Nat, k ≤ ks.length ∧ i = .int .i64 k ∧ z = .int .i64 t ∧ t ≤ 1048576) (fun _ i => (ks.length : Int).toNat - (intOf i).toNat)
    case atStart => exact ⟨0, name.size + ks.length, Nat.zero_le _, rfl, by go_num, h3⟩
    case round =>
      obtain ⟨k, t, hk, rfl, rfl, ht⟩ := hrel
      by_cases hlt : k < ks.length
      · have ck := unhide HS k hlt
        generalize ks.getD k ByteArray.empty = key at *
        by_cases q1 : key.size ≤ 1048576
        · by_cases q2 : t + key.size ≤ 1048576
          · go_wp2_with fail
            go_round
            case rel => exact ⟨k + 1, t + key.size, by omega, by go_num, by go_num, q2⟩
            case measure => simp [intOf]; omega
          · have q2' : (1048576 : Int) < t + key.size := by omega
            go_wp2_with fail
            go_ret
            exact gd_no ..
        · have q1' : (1048576 : Int) < key.size := by omega
          go_wp2_with fail
          go_ret
          exact gd_no ..
      · have hk' : ¬ ((k : Int) < (ks.length : Int)) := by omega
        clear hlt
        by_cases q1 : hl ≤ 1048576
        · by_cases q2 : t + hl ≤ 1048576
          · by_cases q3 : raw.size ≤ 1048576
            · by_cases q4 : t + hl + raw.size ≤ 1048576
              · go_wp2_with fail
                go_ret
                exact gd_yes _ ⟨h1, h2, q1, q3⟩
              · have q4' : (1048576 : Int) < t + hl + raw.size := by omega
                go_wp2_with fail
                go_ret
                exact gd_no ..
            · have q3' : (1048576 : Int) < raw.size := by omega
              go_wp2_with fail
              go_ret
              exact gd_no ..
          · have q2' : (1048576 : Int) < t + hl := by omega
            go_wp2_with fail
            go_ret
            exact gd_no ..
        · have q1' : (1048576 : Int) < hl := by omega
          go_wp2_with fail
          go_ret
          exact gd_no ..

def Tb (w : World) (e : Ending) (w' : World) : Prop := ∃ b, e = .returned (.bool b) ∧ w' = w
set_option maxHeartbeats 2000000 in
theorem tb14 (name raw : ByteArray) (ks : List ByteArray) (ka ha : Option Addr) (kc hl hc : Nat) (w : World) (hsrc : SrcS w ka ks)
    (h1 : name.size ≤ 1048576) (h2 : ks.length ≤ 1048576) (h3 : hl ≤ 1048576) (h4 : raw.size ≤ 1048576) :
    Calls Tryd.prog 14 #[.string name, .slice ka ks.length kc, .slice ha hl hc, .string raw] w (Tb w) := by
  have d1 : decide ((1048576 : Int) < name.size) = false := decide_eq_false (by omega)
  have d2 : decide ((1048576 : Int) < raw.size) = false := decide_eq_false (by omega)
  have d4 : decide ((1048576 : Int) < hl) = false := decide_eq_false (by omega)
  by_cases h5 : ks.length ≤ 65536
  case neg =>
    have h5' : (65536 : Int) < ks.length := by omega
    clear hsrc
    go_enter Tryd.func14, Tryd.ntmps14
    go_wp2_with fail
    go_ret
    exact ⟨_, rfl, rfl⟩
  have d3 : decide ((65536 : Int) < ks.length) = false := decide_eq_false (by omega)
  by_cases h6 : name.size + raw.size + hl + 16 * ks.length ≤ 1048576
  case neg =>
    have h6' : (1048576 : Int) < name.size + raw.size + hl + 16 * ks.length := by omega
    clear hsrc
    go_enter Tryd.func14, Tryd.ntmps14
    go_wp2_with fail
    go_ret
    exact ⟨_, rfl, rfl⟩
  have d5 : decide ((1048576 : Int) < name.size + raw.size + hl + 16 * ks.length) = false := decide_eq_false (by omega)
  rcases hsrc with rfl | ⟨b, o, rfl, hb, hsrc⟩
  · simp only [List.length_nil] at h2 h5 h6 d3 d5 ⊢
    clear d3
    go_enter Tryd.func14, Tryd.ntmps14
    go_wp2_with fail
    refine wp_loop_rounds 1 ?_
    rw [rounds_succ]
    go_wp2_with fail
    go_ret
    exact ⟨_, rfl, rfl⟩
  · have HS := hide hsrc
    clear hsrc
    go_enter Tryd.func14, Tryd.ntmps14
    go_wp2_with fail
    go_loop [9, 10] (fun z i => ∃ k t : Nat, k ≤ ks.length ∧ i = .int .i64 k ∧ z = .int .i64 t ∧ t ≤ 1048576) (fun _ i => (ks.length : Int).toNat - (intOf i).toNat)
    case atStart => exact ⟨0, name.size + raw.size + hl + 16 * ks.length, Nat.zero_le _, rfl, by go_num, h6⟩
    case round =>
      obtain ⟨k, t, hk, rfl, rfl, ht⟩ := hrel
      by_cases hlt : k < ks.length
      · have ck := unhide HS k hlt
        generalize ks.getD k ByteArray.empty = key at *
        by_cases q1 : key.size ≤ 1048576
        · by_cases q2 : t + key.size ≤ 1048576
          · go_wp2_with fail
            go_round
            case rel => exact ⟨k + 1, t + key.size, by omega, by go_num, by go_num, q2⟩
            case measure => simp [intOf]; omega
          · have q2' : (1048576 : Int) < t + key.size := by omega
            go_wp2_with fail
            go_ret
            exact ⟨_, rfl, rfl⟩
        · have q1' : (1048576 : Int) < key.size := by omega
          go_wp2_with fail
          go_ret
          exact ⟨_, rfl, rfl⟩
      · have hk' : ¬ ((k : Int) < (ks.length : Int)) := by omega
        clear hlt
        go_wp2_with fail
        go_ret
        exact ⟨_, rfl, rfl⟩
end Go.Proofs.Qxb6602029aDoor
