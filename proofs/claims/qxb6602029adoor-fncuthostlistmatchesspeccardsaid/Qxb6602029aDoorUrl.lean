/-
  THE WALK of cutURL.
-/
import Derived.Test.Qxb6602029aDoorAny
import Derived.Lib.CutLaws
namespace Go.Proofs.Qxb6602029aDoor
open Go.RowKit

/-- internal/bytealg.MaxLen holds SOME int. -/
def Mx (w : World) : Prop := ∃ m, w.cell? ⟨1, 0, none⟩ = some (.int .i64 m)
theorem lt_of_cell {w : World} {a : Addr} {v : Value} (hc : w.cell? a = some v) : a.block < w.heap.size := by
  rcases Nat.lt_or_ge a.block w.heap.size with h' | h'
  · exact h'
  · simp [World.cell?, Array.getElem?_eq_none h'] at hc
theorem Mx.below {w w' : World} (h : Mx w) (hb : Below w.heap.size w w') : Mx w' := by
  obtain ⟨m, hm⟩ := h
  exact ⟨m, (hb.cell (lt_of_cell hm)).trans hm⟩

def sepL : List UInt8 := [58, 47, 47]
def csL : List UInt8 := [47, 63, 35]
def schemeOf (raw : ByteArray) : ByteArray := ⟨(Lib.cut raw.data.toList sepL).1.toArray⟩
def afterOf (raw : ByteArray) : ByteArray := ⟨(Lib.cut raw.data.toList sepL).2.1.toArray⟩
def foundOf (raw : ByteArray) : Bool := (Lib.cut raw.data.toList sepL).2.2
def endOf (a : ByteArray) : Nat := if Lib.indexAny a.data.toList csL < 0 then a.size else (Lib.indexAny a.data.toList csL).toNat
def startOf (a : ByteArray) : Nat := (Lib.lastIndexByte (a.extract 0 (endOf a)) 64 + 1).toNat

theorem cut40 (raw : ByteArray) (w : World) (hs : raw.size < 4294967281) (hm : Mx w) :
    Calls Tryd.prog 40 #[.string raw, .string ⟨#[58, 47, 47]⟩] w fun e w' => e = .returned (.tuple #[.string (schemeOf raw), .string (afterOf raw), .bool (foundOf raw)]) ∧ ∃ n, w' = w.drewN n := by
  obtain ⟨m, hm⟩ := hm
  exact Any.strings_Cut { Tryd.laysM145 with } raw ⟨#[58, 47, 47]⟩ m w hs hm
theorem last31 (s : ByteArray) (hs : s.size ≤ 1048576) (c : Int) (w : World) : Calls Tryd.prog 31 #[.string s, .int .u8 c] w fun e w' => e = .returned (.int .i64 (Lib.lastIndexByte s c)) ∧ w' = w :=
  Any.strings_LastIndexByte Tryd.lays149 s c (by omega) w

theorem indexAny_lt (cs : List UInt8) : ∀ l : List UInt8, Lib.indexAny l cs < l.length
  | [] => by simp [Lib.indexAny]
  | b :: l => by
    have := indexAny_lt cs l
    unfold Lib.indexAny
    split
    · simp
    · split
      · simp; omega
      · simp; omega
theorem end_le (a : ByteArray) : endOf a ≤ a.size := by
  unfold endOf
  have := indexAny_lt csL a.data.toList
  rw [← Lib.size_eq] at this
  split <;> omega
theorem last_rng (s : ByteArray) (c : Int) : -1 ≤ Lib.lastIndexByte s c ∧ Lib.lastIndexByte s c < s.size := by
  rcases Lib.lastIndexByte_spec s c with ⟨e, _⟩ | ⟨i, hi, e, _, _⟩ <;> omega
theorem start_le (a : ByteArray) : startOf a ≤ endOf a := by
  unfold startOf
  have := last_rng (a.extract 0 (endOf a)) 64
  have h2 : (a.extract 0 (endOf a)).size ≤ endOf a := by rw [ByteArray.size_extract]; omega
  omega

theorem row_cell {w : World} {B : Nat} {cs : Array Value} {ty : TypeId} (h : w.heap[B]? = some (.cells cs ty)) (j : Nat) : w.cell? ⟨B, j, none⟩ = cs[j]? := by
  simp [World.cell?, h]
theorem row_frozen {w : World} {B : Nat} {cs : Array Value} {ty : TypeId} (h : w.heap[B]? = some (.cells cs ty)) (j : Nat) : w.frozen? ⟨B, j, none⟩ = false := by
  simp [World.frozen?, h]
theorem row_lt {w : World} {B : Nat} {o : Obj} (h : w.heap[B]? = some o) : B < w.heap.size := (Array.getElem?_eq_some_iff.1 h).1
theorem row_new (w : World) (o : Obj) (n : Nat) : ((w.alloc o).drewN n).heap[w.heap.size]? = some o := by
  show (w.heap.push o)[w.heap.size]? = some o
  simp

abbrev E0 : Value := .string ⟨#[]⟩
set_option maxHeartbeats 1000000 in
theorem url_no (raw : ByteArray) (w : World) (hs : raw.size ≤ 1048576) (hm : Mx w) (hf : foundOf raw = false) :
    Calls Tryd.prog 30 #[.string raw] w fun e w' => e = .returned (.tuple #[.agg #[.string ⟨#[]⟩, .string ⟨#[]⟩, .string ⟨#[]⟩, .string ⟨#[]⟩], .bool false]) ∧ Below w.heap.size w w' := by
  have HM := hide hm
  clear hm
  go_enter Tryd.func30, Tryd.ntmps30
  go_wp2_with fail
  refine (cut40 raw _ (by omega) ((unhide HM).below ((Below.refl _ _).alloc (Nat.le_refl _) _))).mono ?_
  rintro e w' ⟨rfl, n, rfl⟩
  rw [hf]
  have hr := row_new w (.cells #[E0, E0, E0, E0] 56) n
  have hb1 : Below w.heap.size w ((w.alloc (.cells #[E0, E0, E0, E0] 56)).drewN n) := below_drewN ((Below.refl _ _).alloc (Nat.le_refl _) _) n
  generalize ((w.alloc (.cells #[E0, E0, E0, E0] 56)).drewN n) = w1 at *
  have c0 := row_cell hr 0
  have c1 := row_cell hr 1
  have c2 := row_cell hr 2
  have c3 := row_cell hr 3
  have f0 := row_frozen hr
  simp at c0 c1 c2 c3
  clear hr
  go_wp2_with fail
  exact bodyPost_ret (v := .tuple #[.agg #[.string ⟨#[]⟩, .string ⟨#[]⟩, .string ⟨#[]⟩, .string ⟨#[]⟩], .bool false]) (by simp [results, Tryd.results30, go_sem, c0, c1, c2, c3]) rfl ⟨rfl, (((hb1.setCell (Nat.le_refl _) _).setCell (Nat.le_refl _) _).setCell (Nat.le_refl _) _).setCell (Nat.le_refl _) _⟩

set_option maxHeartbeats 1000000 in
theorem url_yes (raw : ByteArray) (w : World) (hs : raw.size ≤ 1048576) (hm : Mx w) (hf : foundOf raw = true) (ha : (afterOf raw).size ≤ 1048576) :
    Calls Tryd.prog 30 #[.string raw] w fun e w' => e = .returned (.tuple #[.agg #[.string (schemeOf raw), .string ((afterOf raw).extract 0 (startOf (afterOf raw))), .string ((afterOf raw).extract (startOf (afterOf raw)) (endOf (afterOf raw))), .string ((afterOf raw).extract (endOf (afterOf raw)) (afterOf raw).size)], .bool true]) ∧ Below w.heap.size w w' := by
  have HM := hide hm
  clear hm
  have el := end_le (afterOf raw)
  have sl := start_le (afterOf raw)
  have lr := last_rng ((afterOf raw).extract 0 (endOf (afterOf raw))) 64
  have HS := hide (show startOf (afterOf raw) = (Lib.lastIndexByte ((afterOf raw).extract 0 (endOf (afterOf raw))) 64 + 1).toNat from rfl)
  have HE := hide (show endOf (afterOf raw) = if Lib.indexAny (afterOf raw).data.toList csL < 0 then (afterOf raw).size else (Lib.indexAny (afterOf raw).data.toList csL).toNat from rfl)
  have H41 : Hid (∀ w, Calls Tryd.prog 41 #[.string (afterOf raw), .string ⟨#[47, 63, 35]⟩] w fun e w' => e = .returned (.int .i64 (Lib.indexAny (afterOf raw).data.toList csL)) ∧ Below w.heap.size w w') := hide fun w => any41 (afterOf raw) w (by omega)
  have H40 : Hid (∀ w, Mx w → Calls Tryd.prog 40 #[.string raw, .string ⟨#[58, 47, 47]⟩] w fun e w' => e = .returned (.tuple #[.string (schemeOf raw), .string (afterOf raw), .bool (foundOf raw)]) ∧ ∃ n, w' = w.drewN n) := hide fun w hm => cut40 raw w (by omega) hm
  generalize startOf (afterOf raw) = st at *
  generalize endOf (afterOf raw) = en at *
  generalize afterOf raw = A at *
  generalize schemeOf raw = S at *
  generalize Lib.indexAny A.data.toList csL = ix at *
  have H31 : Hid (∀ w, Calls Tryd.prog 31 #[.string (A.extract 0 en), .int .u8 64] w fun e w' => e = .returned (.int .i64 (Lib.lastIndexByte (A.extract 0 en) 64)) ∧ w' = w) := hide fun w => last31 _ (by rw [ByteArray.size_extract]; omega) 64 w
  have hsz : (A.extract 0 en).size = en := by rw [ByteArray.size_extract]; omega
  rw [hsz] at lr
  clear hsz
  generalize Lib.lastIndexByte (A.extract 0 en) 64 = lx at *
  obtain ⟨lr1, lr2⟩ := lr
  go_enter Tryd.func30, Tryd.ntmps30
  go_wp2_with fail
  refine (unhide H40 _ ((unhide HM).below ((Below.refl _ _).alloc (Nat.le_refl _) _))).mono ?_
  rintro e w' ⟨rfl, n, rfl⟩
  rw [hf]
  have hr := row_new w (.cells #[E0, E0, E0, E0] 56) n
  have hb1 : Below w.heap.size w ((w.alloc (.cells #[E0, E0, E0, E0] 56)).drewN n) := below_drewN ((Below.refl _ _).alloc (Nat.le_refl _) _) n
  generalize ((w.alloc (.cells #[E0, E0, E0, E0] 56)).drewN n) = w1 at *
  have HR := hide hr
  clear hr
  go_wp2_with fail
  refine (unhide H41 _).mono ?_
  rintro e w2 ⟨rfl, hb2⟩
  have hr2 := (hb2.block _ (row_lt (unhide HR))).trans (unhide HR)
  have hb3 := hb1.trans (hb2.mono hb1.size)
  clear hb1 hb2 HR
  have c0 := row_cell hr2 0
  have c1 := row_cell hr2 1
  have c2 := row_cell hr2 2
  have c3 := row_cell hr2 3
  have f0 := row_frozen hr2
  simp at c0 c1 c2 c3
  clear hr2
  have hlx : lx = (st : Int) - 1 := by have := unhide HS; omega
  subst hlx
  by_cases hix : ix < 0
  · have he := unhide HE
    rw [if_pos hix] at he
    subst he
    rw [show A.extract 0 A.size = A by simp] at H31
    clear HE HS
    go_wp2_with fail
    refine (unhide H31 _).mono ?_
    rintro e w3 ⟨rfl, rfl⟩
    go_wp2_with fail
    go_region
    go_wp2_with fail
    refine bodyPost_ret (v := .tuple #[.agg #[.string S, .string (A.extract 0 st), .string (A.extract st A.size), .string (A.extract A.size A.size)], .bool true]) (by simp [results, Tryd.results30, go_sem, c0, c1, c2, c3]) rfl ⟨rfl, ?_⟩
    exact (((hb3.drew.setCell (Nat.le_refl _) _).setCell (Nat.le_refl _) _).setCell (Nat.le_refl _) _).setCell (Nat.le_refl _) _
  · obtain ⟨k, rfl⟩ := Int.eq_ofNat_of_zero_le (show 0 ≤ ix by omega)
    have he := unhide HE
    rw [if_neg hix] at he
    simp only [Int.toNat_natCast] at he
    subst he
    clear HE HS hix
    go_wp2_with fail
    refine (unhide H31 _).mono ?_
    rintro e w3 ⟨rfl, rfl⟩
    go_wp2_with fail
    go_region
    go_wp2_with fail
    refine bodyPost_ret (v := .tuple #[.agg #[.string S, .string (A.extract 0 st), .string (A.extract st en), .string (A.extract en A.size)], .bool true]) (by simp [results, Tryd.results30, go_sem, c0, c1, c2, c3]) rfl ⟨rfl, ?_⟩
    exact (((hb3.drew.setCell (Nat.le_refl _) _).setCell (Nat.le_refl _) _).setCell (Nat.le_refl _) _).setCell (Nat.le_refl _) _
end Go.Proofs.Qxb6602029aDoor
