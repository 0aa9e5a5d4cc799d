/-
  THE WALK of ZZWriteHeader.
-/
import Derived.Test.Qxb6602105aDoorWhA
import Derived.Laws.MakeOwn
import Derived.Shelf.Bytes.GrowKept
import Derived.Laws.CopyOwn
namespace Go.Proofs.Qxb6602105aDoor
open Go.RowKit

theorem info5 : (Tryd.prog.info? 5).map (fun i => (i.zero, i.size, i.bytes)) = some (some (.int .u8 0), 1, 1) := by kernel_rfl
theorem newBuf18 (g cap : Nat) (w : World) : Calls Tryd.prog 18 #[.slice (some ⟨g, 0, none⟩) 0 cap] w fun e w' => e = .returned (.pointer (some ⟨w.heap.size, 0, none⟩)) ∧ w' = w.alloc (.cells #[.slice (some ⟨g, 0, none⟩) 0 cap, .int .i64 0, .int .i8 0] 47) := by
  go_enter Tryd.func18, Tryd.ntmps18
  go_wp2_with fail
  go_ret
  exact ⟨rfl, rfl⟩

/-- Where the bytes of the first argument lie. -/
def PreAt (w : World) (a : Option Addr) (l : List UInt8) : Prop := (a = none ∧ l = []) ∨ ∃ g, a = some ⟨g, 0, none⟩ ∧ g < w.heap.size ∧ ∀ j (h : j < l.length), w.cell? ⟨g, j, none⟩ = some (.int .u8 (l[j].toNat : Int))
theorem PreAt.below {w w' : World} {a : Option Addr} {l : List UInt8} (h : PreAt w a l) (hb : Below w.heap.size w w') : PreAt w' a l := by
  rcases h with h | ⟨g, h1, h2, h3⟩
  · exact .inl h
  · exact .inr ⟨g, h1, Nat.lt_of_lt_of_le h2 hb.size, fun j hj => (hb.cell (p := ⟨g, j, none⟩) h2).trans (h3 j hj)⟩
theorem add_at0 (g j : Nat) : (⟨g, 0, none⟩ : Addr).add j = ⟨g, j, none⟩ := by
  by_cases e : j = 0
  · subst e; simp [Addr.add]
  · simp [Addr.add, e]
theorem write19 {B b g pc : Nat} {l : List UInt8} {w : World} (h : Buf w B b []) (hBw : B ≤ w.heap.size) (hg : g < B) (hl : l.length ≤ 262144) (hsrc : ∀ j (h : j < l.length), w.cell? ⟨g, j, none⟩ = some (.int .u8 (l[j].toNat : Int))) :
    Calls Tryd.prog 19 #[.pointer (some ⟨b, 0, none⟩), .slice (some ⟨g, 0, none⟩) l.length pc] w fun e w' => (∃ v, e = .returned v) ∧ Buf w' B b l ∧ Below B w w' := by
  refine (Any.Buffer_Write_k Tryd.laysM180 B b [] (Lib.byteCells l) ⟨g, 0, none⟩ l.length pc w h hBw (fun v hv => by simp at hv) (Lib.byteCells_length l) hg (fun j v hj => ?_) (one_bytes l) (by simp; omega)).mono fun e w' ⟨h1, h2, h3, _⟩ => ⟨⟨_, h1⟩, h2, h3⟩
  have hjl : j < l.length := by rw [← Lib.byteCells_length l]; exact (List.getElem?_eq_some_iff.1 hj).1
  rw [add_at0, hsrc j hjl]
  simp [Lib.byteCells, hjl] at hj
  rw [← hj]
theorem try24 {B b : Nat} {w : World} (h : Buf w B b []) :
    Calls Tryd.prog 24 #[.pointer (some ⟨b, 0, none⟩), .int .i64 0] w fun e w' => e = .returned (.tuple #[.int .i64 0, .bool true]) ∧ Buf w' B b [] ∧ Below B w w' := by
  refine (Any.Buffer_tryGrow_kept { Tryd.laysM180 with } B b 0 [] w h).mono fun e w' hh => ?_
  rcases hh with ⟨h1, xs, h2, h3, h4, _⟩ | ⟨_, _, ao, l, cap, _, hlt⟩
  · obtain rfl : xs = [] := List.eq_nil_of_length_eq_zero h2
    exact ⟨h1, h3, h4⟩
  · omega
theorem buf_cell {B b : Nat} {w : World} (h : Buf w B b []) : ∃ ao cap, cap ≤ maxLen ∧ w.cell? ⟨b, 0, none⟩ = some (.slice ao 0 cap) := by
  obtain ⟨hB, lr, hc⟩ := h.cases
  rcases hc with ⟨_, hbk⟩ | ⟨g, cap, cur, hbk, hBg, hg, hnc, hcm, hcs, htk, hgb⟩
  · exact ⟨none, 0, by decide, by rw [Lib.cell_of_heap hbk]; rfl⟩
  · exact ⟨_, cap, hcm, by rw [Lib.cell_of_heap hbk]; rfl⟩
theorem buf_two {B b : Nat} {w : World} (h : Buf w B b []) : w.frozen? ⟨b, 2, none⟩ = false ∧ ∃ lr, w.cell? ⟨b, 2, none⟩ = some (.int .i8 lr) := by
  obtain ⟨hB, lr, hc⟩ := h.cases
  rcases hc with ⟨_, hbk⟩ | ⟨g, cap, cur, hbk, hBg, hg, hnc, hcm, hcs, htk, hgb⟩
  · exact ⟨Lib.frozen_of_heap hbk 2, lr, by rw [Lib.cell_of_heap hbk]; rfl⟩
  · exact ⟨Lib.frozen_of_heap hbk 2, lr, by rw [Lib.cell_of_heap hbk]; rfl⟩
set_option maxHeartbeats 2000000 in
set_option maxRecDepth 100000 in
/-- 'Write(nil)'. -/
theorem write19_nil {B b pc : Nat} {w : World} (h : Buf w B b []) :
    Calls Tryd.prog 19 #[.pointer (some ⟨b, 0, none⟩), .slice none 0 pc] w fun e w' => (∃ v, e = .returned v) ∧ Buf w' B b [] ∧ Below B w w' := by
  have hsz : (Tryd.prog.info? 5).map (·.size) = some 1 := by kernel_rfl
  have hcp := fun w d l c => run_copy_none (P := Tryd.prog) w 22 22 3 5 d none l c 0 pc Tryd.underlying22 hsz (Nat.zero_min _)
  obtain ⟨f2, lr, c2⟩ := buf_two h
  have hI1 : Buf (w.setCell ⟨b, 2, none⟩ (.int .i8 0)) B b [] := h.setLast 0
  have hb1 : Below B w (w.setCell ⟨b, 2, none⟩ (.int .i8 0)) := (Below.refl B w).setCell (p := ⟨b, 2, none⟩) h.1 _
  have HI1 := hidW hI1
  have HB1 := hidW hb1
  clear h hI1 hb1 hsz
  go_enter Tryd.func19, Tryd.ntmps19
  go_wp2_with fail
  refine (try24 (unhidW HI1)).mono ?_
  rintro e w2 ⟨rfl, hI2, hb2⟩
  obtain ⟨ao, cap, hcm, c0⟩ := buf_cell hI2
  have HI2 := hidW hI2
  have HB2 := hidW ((unhidW HB1).trans hb2)
  clear hI2 hb2 f2 c2 HI1 HB1
  unfold maxLen at hcm
  go_wp2_with fail
  exact bodyPost_ret (v := .tuple #[.int .i64 0, .nilIface]) (by simp [results, Tryd.results19, go_sem]) rfl ⟨⟨_, rfl⟩, unhidW HI2, unhidW HB2⟩
theorem writePre {B b pc : Nat} {pa : Option Addr} {l : List UInt8} {w : World} (h : Buf w B b []) (hBw : B ≤ w.heap.size) (hg : ∀ g, pa = some ⟨g, 0, none⟩ → g < B) (hl : l.length ≤ 262144) (hp : PreAt w pa l) :
    Calls Tryd.prog 19 #[.pointer (some ⟨b, 0, none⟩), .slice pa l.length pc] w fun e w' => (∃ v, e = .returned v) ∧ Buf w' B b l ∧ Below B w w' := by
  rcases hp with ⟨rfl, rfl⟩ | ⟨g, rfl, h1, h2⟩
  · exact write19_nil h
  · exact write19 h hBw (hg g rfl) hl h2
theorem bytes21 {B b : Nat} {l : List UInt8} {w : World} (h : Buf w B b l) (hl : 0 < l.length) :
    Calls Tryd.prog 21 #[.pointer (some ⟨b, 0, none⟩)] w fun e w' => ∃ g cap, e = .returned (.slice (some ⟨g, 0, none⟩) l.length cap) ∧ w'.ownsRow B 5 1 (.slice (some ⟨g, 0, none⟩) l.length cap) l.length (Lib.byteCells l) ∧ Below w.heap.size w w' := by
  refine (Any.Buffer_Bytes Tryd.laysM183 B b (Lib.byteCells l) w h).mono fun e w' ⟨v, h1, h2, n, h3⟩ => ?_
  rw [Lib.byteCells_length] at h2
  rcases h2.2 with ⟨_, h0⟩ | ⟨g, cap, cur, rfl, _⟩
  · omega
  · exact ⟨g, cap, h1, h2, by rw [h3]; exact below_drewN (Below.refl _ _) _⟩
def outL (pre : List UInt8) (name value : ByteArray) : List UInt8 := pre ++ whL name value
set_option maxHeartbeats 2000000 in
set_option maxRecDepth 100000 in
theorem zz8 {pc : Nat} {pa : Option Addr} {pre : List UInt8} (name value : ByteArray) {w : World} (hp : PreAt w pa pre) (hm : Mx w) (hl : pre.length ≤ 262144) (hn : name.size ≤ 262144) (hv : value.size ≤ 262144) :
    Calls Tryd.prog 8 #[.slice pa pre.length pc, .string name, .string value] w fun e w' => ∃ g cap, e = .returned (.slice (some ⟨g, 0, none⟩) (outL pre name value).length cap) ∧ w'.ownsRow w.heap.size 5 1 (.slice (some ⟨g, 0, none⟩) (outL pre name value).length cap) (outL pre name value).length (Lib.byteCells (outL pre name value)) ∧ Below w.heap.size w w' := by
  unfold outL
  obtain ⟨out, hout⟩ : ∃ out, pre ++ whL name value = out := ⟨_, rfl⟩
  rw [hout]
  have hpos : 0 < out.length := by rw [← hout]; simp [whL]; omega
  have HOut := hidW hout
  clear hout
  obtain ⟨j0, hj, hy0, hy1, hy2⟩ := info_parts info5
  have hnum : ((pre.length + name.size + 3 * value.size + 8 : Nat) : Int) = (pre.length : Int) + name.size + 3 * value.size + 8 := by omega
  obtain ⟨w1, hrun, hown, hgr⟩ := run_make_own (P := Tryd.prog) w w.heap.size 22 5 j0 (.int .u8 0) 1 Tryd.underlying22 hj hy0 hy1 .i64 .i64 (pre.length + name.size + 3 * value.size + 8) (by rw [hy2]; omega) (by unfold maxLen; omega) (Nat.le_refl _)
  rw [hnum] at hrun
  generalize pre.length + name.size + 3 * value.size + 8 = C at *
  have hb1 : Below w.heap.size w w1 := (Below.refl _ _).grown hgr (Nat.le_refl _) (fun k hk => by cases hk)
  have hlt1 : w.heap.size < w1.heap.size := (hown.lt _ rfl).2
  have HO := hidW hown
  have HB1 := hidW hb1
  have HP := hidW hp
  have HM := hidW hm
  clear hown hb1 hgr hp hm hnum hj hy0 hy1 hy2
  go_enter Tryd.func8, Tryd.ntmps8
  go_wp2_with fail
  refine (newBuf18 _ _ w1).mono ?_
  rintro e w2 ⟨rfl, hw2⟩
  have hI2 : Buf w2 w.heap.size w1.heap.size [] := by
    rw [hw2]
    exact ⟨Nat.le_of_lt hlt1, _, 0, by show (w1.heap.push _)[w1.heap.size]? = _; simp, (unhidW HO).alloc _, by simp [Value.ownBlock]; omega⟩
  have hb2 : Below w.heap.size w w2 := by rw [hw2]; exact (unhidW HB1).alloc (Nat.le_of_lt hlt1) _
  have hp2 := (unhidW HP).below hb2
  have hpg : ∀ g, pa = some ⟨g, 0, none⟩ → g < w.heap.size := fun g hg => by
    rcases unhidW HP with ⟨h1, _⟩ | ⟨g', h1, h2, _⟩
    · rw [h1] at hg; cases hg
    · rw [h1] at hg; cases hg; exact h2
  have H19 := hidW (writePre (pc := pc) hI2 hb2.size hpg hl hp2)
  have HB2 := hidW hb2
  clear hI2 hb2 hp2 hpg hw2 HO hrun HP HB1
  go_wp2_with fail
  refine (unhidW H19).mono ?_
  rintro e w3 ⟨⟨v3, rfl⟩, hI3, hb3⟩
  have hb13 := (unhidW HB2).trans hb3
  have H20 := hidW (wh20 name value hI3 hb13.size ((unhidW HM).below hb13) hn hv hl)
  have HB3 := hidW hb13
  clear hI3 hb3 hb13 H19 HB2
  go_wp2_with fail
  refine (unhidW H20).mono ?_
  rintro e w4 ⟨rfl, hI4, hb4⟩
  have hb14 := (unhidW HB3).trans hb4
  rw [unhidW HOut] at hI4
  have H21 := hidW (bytes21 hI4 hpos)
  have HB4 := hidW hb14
  clear hI4 hb4 hb14 H20 HB3
  go_wp2_with fail
  refine (unhidW H21).mono ?_
  rintro e w5 ⟨g, cap, rfl, ho5, hb5⟩
  have HO5 := hidW ho5
  have HB5 := hidW ((unhidW HB4).trans (hb5.mono (unhidW HB4).size))
  clear ho5 hb5 H21 HB4
  go_wp2_with fail
  go_ret
  exact ⟨g, cap, rfl, unhidW HO5, unhidW HB5⟩
end Go.Proofs.Qxb6602105aDoor
