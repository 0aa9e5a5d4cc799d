/-
  THE WALKS of splitBagIt (by the shelf's contracts) and of sameLines.
-/
import Derived.Test.Qxb6602032aDoorShelf
import Derived.Test.Qxb6602032aDoorPlain
import Derived.WalkKit
import Derived.WalkSpells
import Derived.WalkLawsBesides
import Derived.Deep.QuietTactic
import Derived.BigQuiet
import Derived.Deep.LoopGhost
namespace Go.Proofs.Qxb6602032aDoor
open Go.RowKit Bag

theorem hide {p : Prop} (h : p) : Hid p := h
theorem unhide {p : Prop} (h : Hid p) : p := h
theorem ba_ext {a b : ByteArray} (h : a.data.toList = b.data.toList) : a = b := by rw [← Lib.mk_data a, ← Lib.mk_data b, h]
theorem lt_of_cell {w : World} {a : Addr} {v : Value} (hc : w.cell? a = some v) : a.block < w.heap.size := by
  rcases Nat.lt_or_ge a.block w.heap.size with h' | h'
  · exact h'
  · simp [World.cell?, Array.getElem?_eq_none h'] at hc

/-- internal/bytealg.MaxLen holds SOME int. -/
def Mx (w : World) : Prop := ∃ m, w.cell? ⟨0, 0, none⟩ = some (.int .i64 m)
theorem Mx.below {w w' : World} (h : Mx w) (hb : Below w.heap.size w w') : Mx w' := by
  obtain ⟨m, hm⟩ := h
  exact ⟨m, (hb.cell (lt_of_cell hm)).trans hm⟩

def repA (s : ByteArray) : ByteArray := ⟨(Lib.replaceAll s.data.toList [13, 10] [10]).toArray⟩
def repB (s : ByteArray) : ByteArray := ⟨(Lib.replaceAll s.data.toList [13] [10]).toArray⟩
def trimL (s : ByteArray) : ByteArray := ⟨(Lib.trimSuffix s.data.toList [10]).toArray⟩
def bagB (s : ByteArray) : List ByteArray := Lib.splitB ⟨#[10]⟩ 0 (Lib.countB (trimL (repB (repA s))) ⟨#[10]⟩) (trimL (repB (repA s)))

theorem count_le (s : ByteArray) (old : ByteArray) (h1 : 1 ≤ old.size) : Lib.countB s old ≤ s.size := Lib.countB_le old h1 s.size s (Nat.le_refl _)
theorem rep12a (s : ByteArray) (w : World) (hs : s.size ≤ 4194304) (hm : Mx w) :
    Calls Tryd.prog 12 #[.string s, .string ⟨#[13, 10]⟩, .string ⟨#[10]⟩] w fun e w' => e = .returned (.string (repA s)) ∧ Below w.heap.size w w' := by
  obtain ⟨m, hm⟩ := hm
  have hc := count_le s ⟨#[13, 10]⟩ (by decide)
  exact Any.strings_ReplaceAll { Tryd.laysM155 with } Tryd.Builder_Extra_M155 s ⟨#[13, 10]⟩ ⟨#[10]⟩ m w (by omega) hm (by decide) (by rw [show (⟨#[10]⟩ : ByteArray).size = 1 from rfl]; omega)
theorem rep12b (s : ByteArray) (w : World) (hs : s.size ≤ 4194304) (hm : Mx w) :
    Calls Tryd.prog 12 #[.string s, .string ⟨#[13]⟩, .string ⟨#[10]⟩] w fun e w' => e = .returned (.string (repB s)) ∧ Below w.heap.size w w' := by
  obtain ⟨m, hm⟩ := hm
  have hc := count_le s ⟨#[13]⟩ (by decide)
  exact Any.strings_ReplaceAll { Tryd.laysM155 with } Tryd.Builder_Extra_M155 s ⟨#[13]⟩ ⟨#[10]⟩ m w (by omega) hm (by decide) (by rw [show (⟨#[10]⟩ : ByteArray).size = 1 from rfl]; omega)
theorem trim14 (s : ByteArray) (w : World) (hs : s.size ≤ 4194304) :
    Calls Tryd.prog 14 #[.string s, .string ⟨#[10]⟩] w fun e w' => e = .returned (.string (trimL s)) ∧ w' = w :=
  Any.strings_TrimSuffix Tryd.lays102 s ⟨#[10]⟩ w (by omega)
theorem split13 (s : ByteArray) (w : World) (hs : s.size ≤ 4194304) (hm : Mx w) :
    Calls Tryd.prog 13 #[.string s, .string ⟨#[10]⟩] w fun e w' => e = .returned (.slice (some ⟨w.heap.size, 0, none⟩) (Lib.countB s ⟨#[10]⟩ + 1) (Lib.countB s ⟨#[10]⟩ + 1)) ∧ w' = w.alloc (.cells ((Lib.splitB ⟨#[10]⟩ 0 (Lib.countB s ⟨#[10]⟩) s).map Value.string).toArray 9) := by
  obtain ⟨m, hm⟩ := hm
  exact Any.strings_Split { Tryd.laysM146 with } (by kernel_rfl) s ⟨#[10]⟩ m w (by omega) hm (by decide)

/-- Where the strings of a slice lie: nothing is said of an empty one. -/
def SrcS (w : World) (a : Option Addr) (ks : List ByteArray) : Prop := ks = [] ∨ ∃ b o, a = some ⟨b, o, none⟩ ∧ b < w.heap.size ∧ ∀ i, i < ks.length → w.cell? ⟨b, o + i, none⟩ = some (.string (ks.getD i ByteArray.empty))
theorem SrcS.below {w w' : World} {a : Option Addr} {ks : List ByteArray} (h : SrcS w a ks) (hb : Below w.heap.size w w') : SrcS w' a ks := by
  rcases h with h | ⟨b, o, h1, h2, h3⟩
  · exact .inl h
  · exact .inr ⟨b, o, h1, Nat.lt_of_lt_of_le h2 hb.size, fun i hi => (hb.cell (p := ⟨b, o + i, none⟩) h2).trans (h3 i hi)⟩

/-- A one-pass replacing makes nothing longer. -/
theorem rep_len {old new : List UInt8} (ho : old ≠ []) (hne : old ≠ new) (hl : new.length ≤ old.length) : ∀ (n : Nat) (s : List UInt8), s.length ≤ n → (Lib.replaceAll s old new).length ≤ s.length
  | _, [], _ => by rw [rep_nil ho hne]; exact Nat.le_refl _
  | 0, b :: r, h => by simp at h
  | n + 1, b :: r, h => by
    by_cases hp : old.isPrefixOf (b :: r) = true
    · obtain ⟨t, ht⟩ := List.isPrefixOf_iff_prefix.1 hp
      have hpos : 0 < old.length := List.length_pos_iff.2 ho
      have hlen := congrArg List.length ht
      simp only [List.length_append, List.length_cons] at hlen h
      rw [← ht, rep_hit ho hne]
      have := rep_len ho hne hl n t (by omega)
      simp only [List.length_append]
      omega
    · rw [rep_miss ho hne b r (Bool.eq_false_iff.2 hp)]
      have := rep_len ho hne hl n r (by simp at h; omega)
      simp only [List.length_cons]
      omega
theorem size_mk (l : List UInt8) : (⟨l.toArray⟩ : ByteArray).size = l.length := by simp [ByteArray.size]
theorem repA_le (s : ByteArray) : (repA s).size ≤ s.size := by
  unfold repA
  rw [size_mk, Lib.size_eq s]
  exact rep_len (by simp) (by decide) (by simp) _ _ (Nat.le_refl _)
theorem repB_le (s : ByteArray) : (repB s).size ≤ s.size := by
  unfold repB
  rw [size_mk, Lib.size_eq s]
  exact rep_len (by simp) (by decide) (by simp) _ _ (Nat.le_refl _)
theorem trimL_le (s : ByteArray) : (trimL s).size ≤ s.size := by
  unfold trimL
  rw [size_mk, Lib.size_eq s]
  unfold Lib.trimSuffix
  split
  · simp
  · exact Nat.le_refl _
theorem bag_len (s : ByteArray) : (bagB s).length = Lib.countB (trimL (repB (repA s))) ⟨#[10]⟩ + 1 := Lib.splitB_all ⟨#[10]⟩ (by decide) 0 _ _ rfl
theorem bag_le (s : ByteArray) : (bagB s).length ≤ s.size + 1 := by
  have h1 := repA_le s
  have h2 := repB_le (repA s)
  have h3 := trimL_le (repB (repA s))
  have h4 := count_le (trimL (repB (repA s))) ⟨#[10]⟩ (by decide)
  rw [bag_len]
  omega
/-- THE PIECES, as lists of bytes. -/
theorem bag_data (s : ByteArray) : (bagB s).map (·.data.toList) = fin (scan [] s.data.toList) := by
  rw [← bag_scan]
  unfold bagB
  rw [Lib.splitB_data]
  rfl

set_option maxHeartbeats 1000000 in
theorem split11 (s : ByteArray) (w : World) (hs : s.size ≤ 4194304) (hm : Mx w) :
    Calls Tryd.prog 11 #[.string s] w fun e w' => ∃ a, e = .returned (.slice (some a) (bagB s).length (bagB s).length) ∧ SrcS w' (some a) (bagB s) ∧ Below w.heap.size w w' := by
  have h1 := repA_le s
  have h2 := repB_le (repA s)
  have h3 := trimL_le (repB (repA s))
  have HL := hide (bag_len s)
  have HC : Hid (bagB s = Lib.splitB ⟨#[10]⟩ 0 (Lib.countB (trimL (repB (repA s))) ⟨#[10]⟩) (trimL (repB (repA s)))) := hide rfl
  have HM := hide hm
  clear hm
  generalize bagB s = L at *
  go_enter Tryd.func11, Tryd.ntmps11
  go_wp2_with fail
  refine (rep12a s w hs (unhide HM)).mono ?_
  rintro e w1 ⟨rfl, hb1⟩
  go_wp2_with fail
  refine (rep12b (repA s) w1 (by omega) ((unhide HM).below hb1)).mono ?_
  rintro e w2 ⟨rfl, hb2⟩
  have hb12 := hb1.trans (hb2.mono hb1.size)
  clear hb1 hb2
  go_wp2_with fail
  refine (trim14 (repB (repA s)) w2 (by omega)).mono ?_
  rintro e w3 ⟨rfl, rfl⟩
  go_wp2_with fail
  refine (split13 (trimL (repB (repA s))) w3 (by omega) ((unhide HM).below hb12)).mono ?_
  rintro e w4 ⟨rfl, hw4⟩
  rw [hw4, ← unhide HL, ← unhide HC]
  have hb4 : Below w.heap.size w (w3.alloc (.cells (L.map Value.string).toArray 9)) := hb12.alloc hb12.size _
  have hc4 : ∀ i, i < L.length → (w3.alloc (.cells (L.map Value.string).toArray 9)).cell? ⟨w3.heap.size, 0 + i, none⟩ = some (.string (L.getD i ByteArray.empty)) := fun i hi => by
    rw [Nat.zero_add, World.cell?_alloc_at _ _ _ _ rfl]
    simp [hi]
  have hsz : w3.heap.size < (w3.alloc (.cells (L.map Value.string).toArray 9)).heap.size := by simp
  generalize w3.alloc (.cells (L.map Value.string).toArray 9) = w5 at *
  clear hw4
  have HC4 := hide hc4
  clear hc4
  go_wp2_with fail
  go_ret
  exact ⟨_, rfl, .inr ⟨_, _, rfl, hsz, unhide HC4⟩, hb4⟩
set_option maxHeartbeats 1000000 in
theorem split7 (s : ByteArray) (w : World) (hs : s.size ≤ 4194304) (hm : Mx w) :
    Calls Tryd.prog 7 #[.string s] w fun e w' => ∃ a, e = .returned (.slice (some a) (bagB s).length (bagB s).length) ∧ SrcS w' (some a) (bagB s) ∧ Below w.heap.size w w' := by
  have H := hide (split11 s w hs hm)
  clear hm
  generalize bagB s = L at *
  go_enter Tryd.func7, Tryd.ntmps7
  go_wp2_with fail
  refine (unhide H).mono ?_
  rintro e w1 ⟨a, rfl, hsrc, hb⟩
  have HS := hide hsrc
  clear hsrc
  go_wp2_with fail
  go_ret
  exact ⟨a, rfl, unhide HS, hb⟩

/-! ### sameLines: equal lists -/
set_option maxHeartbeats 1000000 in
theorem same6 (xs : List ByteArray) (a b : Option Addr) (c d : Nat) (w : World) (hl : xs.length ≤ 4194304) (ha : SrcS w a xs) (hb : SrcS w b xs) :
    Calls Tryd.prog 6 #[.slice a xs.length c, .slice b xs.length d] w fun e w' => e = .returned (.bool true) ∧ Below w.heap.size w w' := by
  have hne : ((xs.length : Int) != (xs.length : Int)) = false := by simp
  by_cases h0 : xs = []
  · subst h0
    simp only [List.length_nil] at hne ⊢
    clear ha hb hne
    go_enter Tryd.func6, Tryd.ntmps6
    go_wp2_with fail
    refine wp_loop_rounds 1 ?_
    rw [rounds_succ]
    go_wp2_with fail
    go_ret
    exact ⟨rfl, Below.refl _ _⟩
  · rcases ha with ha | ⟨b1, o1, rfl, hb1, ha⟩
    · exact absurd ha h0
    rcases hb with hb | ⟨b2, o2, rfl, hb2, hb⟩
    · exact absurd hb h0
    have HA := hide ha
    have HB := hide hb
    clear ha hb h0
    go_enter Tryd.func6, Tryd.ntmps6
    go_wp2_with fail
    go_loopg [5] xs.length (fun g i wx => ∃ k : Nat, k + g = xs.length ∧ i = .int .i64 k ∧ Below w.heap.size w wx)
    case atStart => exact ⟨0, by omega, rfl, Below.refl _ _⟩
    case round =>
      obtain ⟨k, hkg, rfl, hbw⟩ := hrel
      by_cases hlt : k < xs.length
      · have c1 := (hbw.cell (p := ⟨b1, o1 + k, none⟩) hb1).trans (unhide HA k hlt)
        have c2 := (hbw.cell (p := ⟨b2, o2 + k, none⟩) hb2).trans (unhide HB k hlt)
        generalize xs.getD k ByteArray.empty = x at *
        have HBW := hide hbw
        clear hbw
        go_wp2_with fail
        go_quiet (fail)
        go_wp2_with fail
        go_roundg (xs.length - (k + 1))
        case measure => omega
        case rel => exact ⟨k + 1, by omega, by go_num, below_drewN (unhide HBW) _⟩
      · obtain rfl : k = xs.length := by omega
        go_wp2_with fail
        go_ret
        exact ⟨rfl, hbw⟩
end Go.Proofs.Qxb6602032aDoor
