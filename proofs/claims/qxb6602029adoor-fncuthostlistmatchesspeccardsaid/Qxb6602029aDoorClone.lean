/-
  THE WALKS of cloneStrings and cloneBools: a fresh row with the same cells; nil stays nil.
-/
import Derived.Test.Qxb6602029aDoorGuard
import Derived.Deep.OwnRows
import Derived.Deep.LoopGhost
import Derived.Lib.SliceRun
namespace Go.Proofs.Qxb6602029aDoor
open Go.RowKit

theorem clone_set {w : World} {B : Nat} {cs : Array Value} {t : TypeId} (h : w.heap[B]? = some (.cells cs t)) (k : Nat) (v : Value) : (w.setCell ⟨B, k, none⟩ v).heap[B]? = some (.cells (cs.setIfInBounds k v) t) := by
  simp [World.setCell, Array.getElem?_modify, h]
theorem clone_cell {w : World} {B : Nat} {cs : Array Value} {t : TypeId} (h : w.heap[B]? = some (.cells cs t)) (k : Nat) : w.cell? ⟨B, k, none⟩ = cs[k]? := by simp [World.cell?, h]
theorem clone_frozen {w : World} {B : Nat} {cs : Array Value} {t : TypeId} (h : w.heap[B]? = some (.cells cs t)) (k : Nat) : w.frozen? ⟨B, k, none⟩ = false := by simp [World.frozen?, h]
theorem clone_new (w : World) (o : Obj) : (w.alloc o).heap[w.heap.size]? = some o := by
  show (w.heap.push o)[w.heap.size]? = some o
  simp
theorem made_get (z : Value) (n i : Nat) (h : i < n) : (madeCells #[z] n)[i]? = some z := by
  unfold madeCells
  rw [Array.getElem?_map, Array.getElem?_range, if_pos h]
  simp [Nat.mod_one]

theorem info9 : (Tryd.prog.info? 9).map (fun i => (i.zero, i.size, i.bytes)) = some (some (.string ⟨#[]⟩), 1, 16) := by kernel_rfl
set_option maxHeartbeats 2000000 in
theorem cl15_nil (kc : Nat) (w : World) : Calls Tryd.prog 15 #[.slice none 0 kc] w fun e w' => e = .returned (.slice none 0 0) ∧ w' = w := by
  have hnil := fun w a l c => Lib.run_eql_slice_nil (P := Tryd.prog) w 25 9 a l c 0 0 Tryd.underlying25
  go_enter Tryd.func15, Tryd.ntmps15
  go_wp2_with fail
  go_ret
  exact ⟨rfl, rfl⟩
set_option maxHeartbeats 2000000 in
theorem cl15_some (xs : List ByteArray) (a : Addr) (kc : Nat) (w : World) (hl : xs.length ≤ 1048576) (hsrc : SrcS w (some a) xs) :
    Calls Tryd.prog 15 #[.slice (some a) xs.length kc] w fun e w' => e = .returned (.slice (some ⟨w.heap.size, 0, none⟩) xs.length xs.length) ∧ SrcS w' (some ⟨w.heap.size, 0, none⟩) xs ∧ Below w.heap.size w w' := by
  have hnil := fun w a l c => Lib.run_eql_slice_nil (P := Tryd.prog) w 25 9 a l c 0 0 Tryd.underlying25
  have hmk := fun w => run_make_row' (P := Tryd.prog) 25 9 (.string ⟨#[]⟩) 16 Tryd.underlying25 info9 rfl .i64 .i64 xs.length (by omega) (by omega) w
  obtain ⟨b, o, hbo⟩ : ∃ b o, xs ≠ [] → a = ⟨b, o, none⟩ ∧ b < w.heap.size ∧ ∀ i, i < xs.length → w.cell? ⟨b, o + i, none⟩ = some (.string (xs.getD i ByteArray.empty)) := by
    rcases hsrc with h | ⟨b, o, h1, h2, h3⟩
    · exact ⟨0, 0, fun g => absurd h g⟩
    · exact ⟨b, o, fun _ => ⟨Option.some.inj h1, h2, h3⟩⟩
  clear hsrc
  have HBO := hide hbo
  clear hbo
  go_enter Tryd.func15, Tryd.ntmps15
  go_wp2_with fail
  have hr0 := clone_new w (.cells (madeCells #[.string ⟨#[]⟩] xs.length) 9)
  have hb0 : Below w.heap.size w (w.alloc (.cells (madeCells #[.string ⟨#[]⟩] xs.length) 9)) := (Below.refl _ _).alloc (Nat.le_refl _) _
  have HM := hide (made_get (.string ⟨#[]⟩) xs.length)
  have HZ := hide (size_madeCells #[.string ⟨#[]⟩] xs.length)
  generalize w.alloc (.cells (madeCells #[.string ⟨#[]⟩] xs.length) 9) = w0 at *
  generalize madeCells #[.string ⟨#[]⟩] xs.length = cs0 at *
  have HR0 := hide hr0
  have HB0 := hide hb0
  clear hr0 hb0
  go_loopg [4] xs.length (fun g i wx => ∃ k : Nat, k + g = xs.length ∧ i = .int .i64 k ∧ Below w.heap.size w wx ∧ ∃ cs : Array Value, wx.heap[w.heap.size]? = some (.cells cs 9) ∧ cs.size = xs.length ∧
    (∀ i, i < k → cs[i]? = some (.string (xs.getD i ByteArray.empty))) ∧ (∀ i, k ≤ i → i < xs.length → cs[i]? = some (.string ⟨#[]⟩)))
  case atStart => exact ⟨0, by omega, rfl, unhide HB0, cs0, unhide HR0, unhide HZ, fun i hi => by omega, fun i _ hi => unhide HM i hi⟩
  case round =>
    obtain ⟨k, hkg, rfl, hb, cs, hr, hcs, hdone, hleft⟩ := hrel
    by_cases hlt : k < xs.length
    · obtain ⟨rfl, hbl, hsrc⟩ := unhide HBO (fun e => by rw [e] at hlt; simp at hlt)
      have ck := (hb.cell (p := ⟨b, o + k, none⟩) hbl).trans (hsrc k hlt)
      have cz := (clone_cell hr k).trans (hleft k (Nat.le_refl _) hlt)
      have fz := clone_frozen hr k
      have HR := hide hr
      have HB := hide hb
      have HD := hide hdone
      have HL := hide hleft
      have HS := hide hcs
      clear hr hb hdone hleft hcs hsrc
      have HX : Hid (∃ x, xs.getD k ByteArray.empty = x) := hide ⟨_, rfl⟩
      obtain ⟨x, hx⟩ := unhide HX
      rw [hx] at ck
      have HXE := hide hx
      clear hx HX
      go_wp2_with fail
      go_roundg (xs.length - (k + 1))
      case measure => omega
      case rel =>
        refine ⟨k + 1, by omega, by go_num, (unhide HB).setCell (Nat.le_refl _) _, _, clone_set (unhide HR) k _, by rw [Array.size_setIfInBounds]; exact unhide HS, fun i hi => ?_, fun i h1 h2 => ?_⟩
        · by_cases e : i = k
          · subst e
            rw [Array.getElem?_setIfInBounds_self_of_lt (by rw [unhide HS]; exact hlt), unhide HXE]
          · rw [Array.getElem?_setIfInBounds_ne (fun e' => e e'.symm)]
            exact unhide HD i (by omega)
        · rw [Array.getElem?_setIfInBounds_ne (by omega)]
          exact unhide HL i (by omega) h2
    · obtain rfl : k = xs.length := by omega
      have HR := hide hr
      have HB := hide hb
      have HD := hide hdone
      clear hr hb hdone hleft hcs hlt
      go_wp2_with fail
      go_ret
      exact ⟨rfl, .inr ⟨_, _, rfl, (Array.getElem?_eq_some_iff.1 (unhide HR)).1, fun i hi => by rw [Nat.zero_add, clone_cell (unhide HR)]; exact unhide HD i hi⟩, unhide HB⟩

theorem info4 : (Tryd.prog.info? 4).map (fun i => (i.zero, i.size, i.bytes)) = some (some (.bool false), 1, 1) := by kernel_rfl
set_option maxHeartbeats 2000000 in
theorem cl16_nil (kc : Nat) (w : World) : Calls Tryd.prog 16 #[.slice none 0 kc] w fun e w' => e = .returned (.slice none 0 0) ∧ w' = w := by
  have hnil := fun w a l c => Lib.run_eql_slice_nil (P := Tryd.prog) w 26 4 a l c 0 0 Tryd.underlying26
  go_enter Tryd.func16, Tryd.ntmps16
  go_wp2_with fail
  go_ret
  exact ⟨rfl, rfl⟩
set_option maxHeartbeats 2000000 in
theorem cl16_some (xs : List Bool) (a : Addr) (kc : Nat) (w : World) (hl : xs.length ≤ 1048576) (hsrc : SrcB w (some a) xs) :
    Calls Tryd.prog 16 #[.slice (some a) xs.length kc] w fun e w' => e = .returned (.slice (some ⟨w.heap.size, 0, none⟩) xs.length xs.length) ∧ SrcB w' (some ⟨w.heap.size, 0, none⟩) xs ∧ Below w.heap.size w w' := by
  have hnil := fun w a l c => Lib.run_eql_slice_nil (P := Tryd.prog) w 26 4 a l c 0 0 Tryd.underlying26
  have hmk := fun w => run_make_row' (P := Tryd.prog) 26 4 (.bool false) 1 Tryd.underlying26 info4 rfl .i64 .i64 xs.length (by omega) (by omega) w
  obtain ⟨b, o, hbo⟩ : ∃ b o, xs ≠ [] → a = ⟨b, o, none⟩ ∧ b < w.heap.size ∧ ∀ i, i < xs.length → w.cell? ⟨b, o + i, none⟩ = some (.bool (xs.getD i false)) := by
    rcases hsrc with h | ⟨b, o, h1, h2, h3⟩
    · exact ⟨0, 0, fun g => absurd h g⟩
    · exact ⟨b, o, fun _ => ⟨Option.some.inj h1, h2, h3⟩⟩
  clear hsrc
  have HBO := hide hbo
  clear hbo
  go_enter Tryd.func16, Tryd.ntmps16
  go_wp2_with fail
  have hr0 := clone_new w (.cells (madeCells #[.bool false] xs.length) 4)
  have hb0 : Below w.heap.size w (w.alloc (.cells (madeCells #[.bool false] xs.length) 4)) := (Below.refl _ _).alloc (Nat.le_refl _) _
  have HM := hide (made_get (.bool false) xs.length)
  have HZ := hide (size_madeCells #[.bool false] xs.length)
  generalize w.alloc (.cells (madeCells #[.bool false] xs.length) 4) = w0 at *
  generalize madeCells #[.bool false] xs.length = cs0 at *
  have HR0 := hide hr0
  have HB0 := hide hb0
  clear hr0 hb0
  go_loopg [4] xs.length (fun g i wx => ∃ k : Nat, k + g = xs.length ∧ i = .int .i64 k ∧ Below w.heap.size w wx ∧ ∃ cs : Array Value, wx.heap[w.heap.size]? = some (.cells cs 4) ∧ cs.size = xs.length ∧
    (∀ i, i < k → cs[i]? = some (.bool (xs.getD i false))) ∧ (∀ i, k ≤ i → i < xs.length → cs[i]? = some (.bool false)))
  case atStart => exact ⟨0, by omega, rfl, unhide HB0, cs0, unhide HR0, unhide HZ, fun i hi => by omega, fun i _ hi => unhide HM i hi⟩
  case round =>
    obtain ⟨k, hkg, rfl, hb, cs, hr, hcs, hdone, hleft⟩ := hrel
    by_cases hlt : k < xs.length
    · obtain ⟨rfl, hbl, hsrc⟩ := unhide HBO (fun e => by rw [e] at hlt; simp at hlt)
      have ck := (hb.cell (p := ⟨b, o + k, none⟩) hbl).trans (hsrc k hlt)
      have cz := (clone_cell hr k).trans (hleft k (Nat.le_refl _) hlt)
      have fz := clone_frozen hr k
      have HR := hide hr
      have HB := hide hb
      have HD := hide hdone
      have HL := hide hleft
      have HS := hide hcs
      clear hr hb hdone hleft hcs hsrc
      have HX : Hid (∃ x, xs.getD k false = x) := hide ⟨_, rfl⟩
      obtain ⟨x, hx⟩ := unhide HX
      rw [hx] at ck
      have HXE := hide hx
      clear hx HX
      go_wp2_with fail
      go_roundg (xs.length - (k + 1))
      case measure => omega
      case rel =>
        refine ⟨k + 1, by omega, by go_num, (unhide HB).setCell (Nat.le_refl _) _, _, clone_set (unhide HR) k _, by rw [Array.size_setIfInBounds]; exact unhide HS, fun i hi => ?_, fun i h1 h2 => ?_⟩
        · by_cases e : i = k
          · subst e
            rw [Array.getElem?_setIfInBounds_self_of_lt (by rw [unhide HS]; exact hlt), unhide HXE]
          · rw [Array.getElem?_setIfInBounds_ne (fun e' => e e'.symm)]
            exact unhide HD i (by omega)
        · rw [Array.getElem?_setIfInBounds_ne (by omega)]
          exact unhide HL i (by omega) h2
    · obtain rfl : k = xs.length := by omega
      have HR := hide hr
      have HB := hide hb
      have HD := hide hdone
      clear hr hb hdone hleft hcs hlt
      go_wp2_with fail
      go_ret
      exact ⟨rfl, .inr ⟨_, _, rfl, (Array.getElem?_eq_some_iff.1 (unhide HR)).1, fun i hi => by rw [Nat.zero_add, clone_cell (unhide HR)]; exact unhide HD i hi⟩, unhide HB⟩

/-- Nil, empty or not: a copy that reads alike. -/
theorem cl15 (ks : List ByteArray) (ka : Option Addr) (kc : Nat) (w : World) (hl : ks.length ≤ 1048576) (hn : ka = none → ks = []) (hsrc : SrcS w ka ks) :
    Calls Tryd.prog 15 #[.slice ka ks.length kc] w fun e w' => ∃ a c, e = .returned (.slice a ks.length c) ∧ SrcS w' a ks ∧ Below w.heap.size w w' := by
  cases ka with
  | none =>
    obtain rfl := hn rfl
    exact (cl15_nil kc w).mono fun e w' ⟨he, hw⟩ => ⟨none, 0, he, .inl rfl, by rw [hw]; exact Below.refl _ _⟩
  | some a => exact (cl15_some ks a kc w hl hsrc).mono fun e w' ⟨he, hs, hb⟩ => ⟨_, _, he, hs, hb⟩
theorem cl16 (fs : List Bool) (ka : Option Addr) (kc : Nat) (w : World) (hl : fs.length ≤ 1048576) (hn : ka = none → fs = []) (hsrc : SrcB w ka fs) :
    Calls Tryd.prog 16 #[.slice ka fs.length kc] w fun e w' => ∃ a c, e = .returned (.slice a fs.length c) ∧ SrcB w' a fs ∧ Below w.heap.size w w' := by
  cases ka with
  | none =>
    obtain rfl := hn rfl
    exact (cl16_nil kc w).mono fun e w' ⟨he, hw⟩ => ⟨none, 0, he, .inl rfl, by rw [hw]; exact Below.refl _ _⟩
  | some a => exact (cl16_some fs a kc w hl hsrc).mono fun e w' ⟨he, hs, hb⟩ => ⟨_, _, he, hs, hb⟩
end Go.Proofs.Qxb6602029aDoor
