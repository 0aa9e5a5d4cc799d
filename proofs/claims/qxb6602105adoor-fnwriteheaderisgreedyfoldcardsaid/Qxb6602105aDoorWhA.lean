/-
  THE WALK of writeHeader, over the shelf's contracts of strings.Split and of bytes.Buffer.
-/
import Derived.Test.Qxb6602105aDoorWhShelf
import Derived.Test.Qxb6602105aDoorWhPlain
import Derived.Lib.BufferKept
import Derived.Lib.BufferOld
import Derived.WalkKit
import Derived.WalkSpells
import Derived.WalkLawsBesides
import Derived.Deep.QuietTactic
import Derived.BigQuiet
import Derived.Deep.LoopGhost
import Derived.Laws.Concat
namespace Go.Proofs.Qxb6602105aDoor
open Go.RowKit

theorem hidW {p : Prop} (h : p) : Hid p := h
theorem unhidW {p : Prop} (h : Hid p) : p := h
theorem lt_of_cell {w : World} {a : Addr} {v : Value} (hc : w.cell? a = some v) : a.block < w.heap.size := by
  rcases Nat.lt_or_ge a.block w.heap.size with h' | h'
  · exact h'
  · simp [World.cell?, Array.getElem?_eq_none h'] at hc
/-- internal/bytealg.MaxLen holds SOME int. -/
def Mx (w : World) : Prop := ∃ m, w.cell? ⟨2, 0, none⟩ = some (.int .i64 m)
theorem Mx.below {w w' : World} (h : Mx w) (hb : Below w.heap.size w w') : Mx w' := by
  obtain ⟨m, hm⟩ := h
  exact ⟨m, (hb.cell (lt_of_cell hm)).trans hm⟩
def wordsB (v : ByteArray) : List ByteArray := Lib.splitB ⟨#[32]⟩ 0 (Lib.countB v ⟨#[32]⟩) v
theorem words_data (v : ByteArray) : (wordsB v).map (·.data.toList) = spl [] v.data.toList := by
  rw [← split_spl]
  unfold wordsB
  rw [Lib.splitB_data]
  rfl
theorem words_len (v : ByteArray) : (wordsB v).length = Lib.countB v ⟨#[32]⟩ + 1 := Lib.splitB_all ⟨#[32]⟩ (by decide) 0 _ _ rfl
theorem words_le (v : ByteArray) : (wordsB v).length ≤ v.size + 1 := by
  have : Lib.countB v ⟨#[32]⟩ ≤ v.size := Lib.countB_le ⟨#[32]⟩ (by decide) v.size v (Nat.le_refl _)
  rw [words_len]
  omega
theorem split26 (s : ByteArray) (w : World) (hs : s.size ≤ 4194304) (hm : Mx w) :
    Calls Tryd.prog 26 #[.string s, .string ⟨#[32]⟩] w fun e w' => e = .returned (.slice (some ⟨w.heap.size, 0, none⟩) (wordsB s).length (wordsB s).length) ∧ w' = w.alloc (.cells ((wordsB s).map Value.string).toArray 9) := by
  obtain ⟨m, hm⟩ := hm
  rw [words_len]
  exact Any.strings_Split { Tryd.laysM146 with } (by kernel_rfl) s ⟨#[32]⟩ m w (by omega) hm (by decide)

abbrev Buf (w : World) (B b : Nat) (l : List UInt8) : Prop := Lib.IsBuffer 47 5 B b (Lib.byteCells l) w
theorem one_bytes (l : List UInt8) : ∀ v ∈ Lib.byteCells l, v.oneCell' = true := Lib.byteCells_one l
theorem wstr27 {B b : Nat} {l : List UInt8} (s : ByteArray) {w : World} (h : Buf w B b l) (hBw : B ≤ w.heap.size) (hl : l.length + s.size ≤ 16777216) :
    Calls Tryd.prog 27 #[.pointer (some ⟨b, 0, none⟩), .string s] w fun e w' => e = .returned (.tuple #[.int .i64 s.size, .nilIface]) ∧ Buf w' B b (l ++ s.data.toList) ∧ Below B w w' ∧ Lib.OthersKept 5 (some b) w w' :=
  (Any.Buffer_WriteString_k Tryd.laysM178 B b (Lib.byteCells l) s w h hBw (one_bytes l) (by rw [Lib.byteCells_length]; omega)).mono fun e w' ⟨h1, h2, h3, h4⟩ => ⟨h1, by
    have : Lib.byteCells l ++ Lib.byteCells s.data.toList = Lib.byteCells (l ++ s.data.toList) := by simp [Lib.byteCells]
    rw [this] at h2
    exact h2, h3, h4⟩

def whL (name value : ByteArray) : List UInt8 := name.data.toList ++ 58 :: emit (name.size + 1) (spl [] value.data.toList)
theorem whL_len (name value : ByteArray) : (whL name value).length ≤ name.size + 3 * value.size + 6 := by
  unfold whL
  have h1 := (emit_len (spl [] value.data.toList) (name.size + 1)).2
  rw [pieces_spl] at h1
  have h2 := words_le value
  have h3 := congrArg List.length (words_data value)
  rw [List.length_map] at h3
  simp only [List.length_append, List.length_cons, ← Lib.size_eq, List.length_nil] at h1 ⊢
  omega
/-- What the loop keeps: D is written, the line is kept back. -/
def WInv (E : List UInt8) (ws : List ByteArray) (k : Nat) (D : List UInt8) (line : ByteArray) : Prop := D ++ line.data.toList ++ emit line.size ((ws.drop k).map (·.data.toList)) = E
theorem winv_len {E : List UInt8} {ws : List ByteArray} {k : Nat} {D : List UInt8} {line : ByteArray} (h : WInv E ws k D line) : D.length + line.size + 2 ≤ E.length := by
  have := congrArg List.length h
  have h2 := (emit_len ((ws.drop k).map (·.data.toList)) line.size).1
  simp only [List.length_append, ← Lib.size_eq] at this
  omega
theorem drop_word (ws : List ByteArray) (k : Nat) (h : k < ws.length) : (ws.drop k).map (·.data.toList) = (ws.getD k ByteArray.empty).data.toList :: (ws.drop (k + 1)).map (·.data.toList) := by
  rw [List.drop_eq_getElem_cons h, List.map_cons, show ws.getD k ByteArray.empty = ws[k] by simp [h]]
theorem winv_word {E : List UInt8} {ws : List ByteArray} {k : Nat} {D : List UInt8} {line : ByteArray} (h : WInv E ws k D line) (hk : k < ws.length) : D.length + line.size + (ws.getD k ByteArray.empty).size + 3 ≤ E.length := by
  have := congrArg List.length h
  have h2 := (emit_len ((ws.drop k).map (·.data.toList)) line.size).1
  rw [drop_word ws k hk] at h2 this
  simp only [List.length_append, pieces, List.length_cons, ← Lib.size_eq] at this h2
  omega
theorem winv_start (name value : ByteArray) : WInv (whL name value) (wordsB value) 0 [] (name ++ ⟨#[58]⟩) := by
  unfold WInv whL
  rw [List.drop_zero, words_data, ByteArray.size_append]
  simp
  rfl
theorem winv_fold {E : List UInt8} {ws : List ByteArray} {k : Nat} {D : List UInt8} {line : ByteArray} (h : WInv E ws k D line) (hk : k < ws.length) {X : ByteArray} (hX : ws.getD k ByteArray.empty = X) (hf : 78 < line.size + 1 + X.size) :
    WInv E ws (k + 1) (D ++ (line ++ ⟨#[13, 10]⟩ : ByteArray).data.toList) ((⟨#[]⟩ : ByteArray) ++ (⟨#[32]⟩ ++ X)) := by
  unfold WInv at *
  rw [drop_word ws k hk, hX, emit_fold _ (by rw [← Lib.size_eq]; exact hf)] at h
  rw [← h]
  have : ((⟨#[]⟩ : ByteArray) ++ (⟨#[32]⟩ ++ X)).size = 1 + X.data.toList.length := by
    rw [ByteArray.size_append, ByteArray.size_append, Lib.size_eq X]
    show 0 + (1 + _) = _
    omega
  rw [this]
  simp
theorem winv_stay {E : List UInt8} {ws : List ByteArray} {k : Nat} {D : List UInt8} {line : ByteArray} (h : WInv E ws k D line) (hk : k < ws.length) {X : ByteArray} (hX : ws.getD k ByteArray.empty = X) (hf : ¬ 78 < line.size + 1 + X.size) :
    WInv E ws (k + 1) D (line ++ (⟨#[32]⟩ ++ X)) := by
  unfold WInv at *
  rw [drop_word ws k hk, hX, emit_stay _ (by rw [← Lib.size_eq]; exact hf)] at h
  rw [← h]
  have : (line ++ (⟨#[32]⟩ ++ X)).size = line.size + 1 + X.data.toList.length := by
    rw [ByteArray.size_append, ByteArray.size_append, Lib.size_eq X]
    show _ + (1 + _) = _
    omega
  rw [this]
  simp
theorem winv_end {E : List UInt8} {ws : List ByteArray} {D : List UInt8} {line : ByteArray} (h : WInv E ws ws.length D line) : D ++ (line ++ ⟨#[13, 10]⟩ : ByteArray).data.toList = E := by
  unfold WInv at h
  rw [List.drop_length] at h
  rw [← h]
  simp [emit]

set_option maxHeartbeats 4000000 in
set_option maxRecDepth 100000 in
theorem wh20 {B b : Nat} {pre : List UInt8} (name value : ByteArray) {w : World} (hI : Buf w B b pre) (hBw : B ≤ w.heap.size) (hm : Mx w) (hn : name.size ≤ 262144) (hv : value.size ≤ 262144) (hp : pre.length ≤ 262144) :
    Calls Tryd.prog 20 #[.pointer (some ⟨b, 0, none⟩), .string name, .string value] w fun e w' => e = .returned (.tuple #[]) ∧ Buf w' B b (pre ++ whL name value) ∧ Below B w w' := by
  have hE := whL_len name value
  have HS := hidW (winv_start name value)
  have H26 := hidW (split26 value w (by omega) hm)
  have hwl := words_le value
  generalize whL name value = E at *
  generalize wordsB value = ws at *
  have hb := hI.lt
  have HI := hidW hI
  clear hI hm
  have a1 := fun w => run_string_add_sum (P := Tryd.prog) w name ⟨#[58]⟩ (by have : (⟨#[58]⟩ : ByteArray).size = 1 := rfl; omega)
  obtain ⟨L0, hL0⟩ : ∃ L0, name ++ ⟨#[58]⟩ = L0 := ⟨_, rfl⟩
  rw [hL0] at HS
  simp only [hL0] at a1
  clear hL0
  go_enter Tryd.func20, Tryd.ntmps20
  go_wp2_with fail
  refine (unhidW H26).mono ?_
  rintro e w1 ⟨rfl, hw1⟩
  have hg : w1.heap[w.heap.size]? = some (.cells (ws.map Value.string).toArray 9 (0, 0)) := by rw [hw1]; show (w.heap.push _)[w.heap.size]? = _; simp
  have hI1 : Buf w1 B b pre := by rw [hw1]; exact (unhidW HI).alloc _
  have hb1 : Below B w w1 := by rw [hw1]; exact (Below.refl _ _).alloc hBw _
  clear hw1 H26 HI
  have HG := hidW hg
  have HI1 := hidW hI1
  have HB1 := hidW hb1
  clear hg hI1 hb1
  go_wp2_with fail
  go_loopg [6, 14] ws.length (fun g v i wx => ∃ (k : Nat) (line : ByteArray) (D : List UInt8), k + g = ws.length ∧ i = .int .i64 k ∧ v = .string line ∧ Hid (WInv E ws k D line) ∧ Buf wx B b (pre ++ D) ∧ Below B w wx ∧ Hid (wx.heap[w.heap.size]? = some (.cells (ws.map Value.string).toArray 9 (0, 0))))
  case atStart => exact ⟨0, L0, [], by omega, rfl, rfl, HS, by rw [List.append_nil]; exact unhidW HI1, unhidW HB1, HG⟩
  case round =>
    obtain ⟨k, line, D, hkg, rfl, rfl, HW, hIx, hbx, HGx⟩ := hrel
    have HBx := hidW hbx
    have HIx := hidW hIx
    clear hbx hIx
    have hBx : B ≤ wr.heap.size := Nat.le_trans hBw (unhidW HBx).size
    by_cases hlt : k < ws.length
    · have hsz := winv_word (unhidW HW) hlt
      have HX : Hid (∃ X, ws.getD k ByteArray.empty = X) := hidW ⟨_, rfl⟩
      obtain ⟨X, hX⟩ := unhidW HX
      have ck : wr.cell? ⟨w.heap.size, k, none⟩ = some (.string X) := by
        rw [← hX]
        simp [World.cell?, unhidW HGx, hlt]
      rw [hX] at hsz
      have HXE := hidW hX
      clear HX hX
      obtain ⟨Y, hY⟩ : ∃ Y, (⟨#[32]⟩ : ByteArray) ++ X = Y := ⟨_, rfl⟩
      have hYs : Y.size = 1 + X.size := by rw [← hY, ByteArray.size_append]; rfl
      have a2 := fun w => run_string_add_sum (P := Tryd.prog) w ⟨#[32]⟩ X (by have : (⟨#[32]⟩ : ByteArray).size = 1 := rfl; omega)
      simp only [hY] at a2
      by_cases hf : 78 < line.size + 1 + X.size
      · have hf' : (78 : Int) < (line.size : Int) + 1 + (X.size : Int) := by omega
        have hcr : (⟨#[13, 10]⟩ : ByteArray).size = 2 := rfl
        obtain ⟨Z, hZ⟩ : ∃ Z, line ++ (⟨#[13, 10]⟩ : ByteArray) = Z := ⟨_, rfl⟩
        have hZs : Z.size = line.size + 2 := by rw [← hZ, ByteArray.size_append]; rfl
        have a3 := fun w => run_string_add_sum (P := Tryd.prog) w line ⟨#[13, 10]⟩ (by omega)
        simp only [hZ] at a3
        obtain ⟨N, hN⟩ : ∃ N, (⟨#[]⟩ : ByteArray) ++ Y = N := ⟨_, rfl⟩
        have a4 := fun w => run_string_add_sum (P := Tryd.prog) w ⟨#[]⟩ Y (by have : (⟨#[]⟩ : ByteArray).size = 0 := rfl; omega)
        simp only [hN] at a4
        have HW2 : Hid (WInv E ws (k + 1) (D ++ Z.data.toList) N) := hidW (by rw [← hN, ← hY, ← hZ]; exact winv_fold (unhidW HW) hlt (unhidW HXE) hf)
        have H27 := hidW (wstr27 Z (unhidW HIx) hBx (by simp only [List.length_append]; omega))
        clear hY hZ hN hYs hZs hcr HW
        go_wp2_with fail
        refine (unhidW H27).mono ?_
        rintro e w2 ⟨rfl, hI2, hb2, ho2⟩
        have hg2 := ho2 _ _ (unhidW HGx) (fun e => by cases e; omega) (fun c fz e => by cases e)
        have HI2 := hidW hI2
        have HB2 := hidW hb2
        have HG2 := hidW hg2
        clear hI2 hb2 ho2 hg2 H27
        go_wp2_with fail
        go_roundg (ws.length - (k + 1))
        case measure => omega
        case rel => exact ⟨k + 1, N, D ++ Z.data.toList, by omega, by go_num, rfl, HW2, by rw [← List.append_assoc]; exact unhidW HI2, (unhidW HBx).trans (unhidW HB2), HG2⟩
      · have hf' : decide ((78 : Int) < (line.size : Int) + 1 + (X.size : Int)) = false := decide_eq_false (by omega)
        obtain ⟨N, hN⟩ : ∃ N, line ++ Y = N := ⟨_, rfl⟩
        have a4 := fun w => run_string_add_sum (P := Tryd.prog) w line Y (by omega)
        simp only [hN] at a4
        have HW2 : Hid (WInv E ws (k + 1) D N) := hidW (by rw [← hN, ← hY]; exact winv_stay (unhidW HW) hlt (unhidW HXE) hf)
        clear hY hN hYs HW
        go_wp2_with fail
        go_roundg (ws.length - (k + 1))
        case measure => omega
        case rel => exact ⟨k + 1, N, D, by omega, by go_num, rfl, HW2, unhidW HIx, unhidW HBx, HGx⟩
    · obtain rfl : k = ws.length := by omega
      have hsz := winv_len (unhidW HW)
      have hend := winv_end (unhidW HW)
      obtain ⟨Z, hZ⟩ : ∃ Z, line ++ (⟨#[13, 10]⟩ : ByteArray) = Z := ⟨_, rfl⟩
      have hZs : Z.size = line.size + 2 := by rw [← hZ, ByteArray.size_append]; rfl
      have a3 := fun w => run_string_add_sum (P := Tryd.prog) w line ⟨#[13, 10]⟩ (by have : (⟨#[13, 10]⟩ : ByteArray).size = 2 := rfl; omega)
      simp only [hZ] at a3
      rw [hZ] at hend
      have HEnd := hidW hend
      have H27 := hidW (wstr27 Z (unhidW HIx) hBx (by simp only [List.length_append]; omega))
      clear hZ hZs hend HW
      go_wp2_with fail
      refine (unhidW H27).mono ?_
      rintro e w2 ⟨rfl, hI2, hb2, ho2⟩
      have HI2 := hidW hI2
      have HB2 := hidW hb2
      clear hI2 hb2 ho2 H27
      go_wp2_with fail
      refine bodyPost_end (v := .tuple #[]) (by simp [results, Tryd.results20, go_sem]) rfl ?_
      exact ⟨rfl, by
        have := unhidW HI2
        rwa [List.append_assoc, unhidW HEnd] at this, (unhidW HBx).trans (unhidW HB2)⟩
end Go.Proofs.Qxb6602105aDoor
