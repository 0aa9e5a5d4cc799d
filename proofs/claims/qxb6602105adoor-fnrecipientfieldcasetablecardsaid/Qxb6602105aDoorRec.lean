/-
  THE WALKS under FnRecipientFieldCaseTable.
-/
import Derived.Test.Qxb6602105aDoorFold
import Derived.Test.Qxb6602105aDoorLowShelf
import Derived.WalkKit
import Derived.WalkSpells
import Derived.WalkLawsBesides
import Derived.Deep.QuietTactic
import Derived.BigQuiet
import Derived.Deep.LoopGhost
namespace Go.Proofs.Qxb6602105aDoor
open Go.RowKit

theorem ba_ext {a b : ByteArray} (h : a.data.toList = b.data.toList) : a = b := by rw [← Lib.mk_data a, ← Lib.mk_data b, h]
theorem ne_list {a b : ByteArray} (h : a ≠ b) : (a.toList == b.data.toList) = false := by
  rw [beq_eq_false_iff_ne, Lib.toList_data]
  exact fun e => h (ba_ext e)
theorem ne_empty {a : ByteArray} (h : a ≠ ⟨#[]⟩) : a.toList.isEmpty = false := by
  rw [List.isEmpty_eq_false_iff, Lib.toList_data]
  exact fun e => h (ba_ext e)
theorem hide {p : Prop} (h : p) : Hid p := h
theorem unhide {p : Prop} (h : Hid p) : p := h
structure Env (w : World) : Prop where
  cv : Lib.CaseVar 1 Lib.caseA w
  ut : Lib.Utf8Tabs 3 4 w
theorem Env.below {w w' : World} (h : Env w) (hb : Below w.heap.size w w') : Env w' := ⟨Lib.CaseVar_below h.cv hb, Utf8Tabs_below h.ut hb⟩
def lowOf (s : ByteArray) : ByteArray := ⟨(Lib.toLowerD s.data.toList).toArray⟩
theorem low28 (s : ByteArray) (w : World) (hs : s.size ≤ 1048576) (he : Env w) :
    Calls Tryd.prog 28 #[.string s] w fun e w' => e = .returned (.string (lowOf s)) ∧ Below w.heap.size w w' :=
  Any.strings_ToLower_any Tryd.lays159 Tryd.Builder_Extra_159 s w (by omega) he.cv he.ut

set_option maxHeartbeats 2000000 in
theorem zb12 (a n u k : ByteArray) (w : World) : Calls Tryd.prog 12 #[.string a, .string n, .string u, .string k] w fun e w' => ∃ b, e = .returned (.bool b) ∧ w' = w := by
  by_cases q1 : a.size ≤ 1048576
  case neg =>
    by_cases q : a.size ≤ 1048576
    · exact absurd q q1
    · have d1 : (1048576 : Int) < (a.size : Int) := by omega
      go_enter Tryd.func12, Tryd.ntmps12
      go_wp2_with fail
      go_ret
      exact ⟨false, rfl, rfl⟩
  have e1 : decide ((1048576 : Int) < (a.size : Int)) = false := decide_eq_false (by omega)
  by_cases q2 : a.size + n.size ≤ 1048576
  case neg =>
    by_cases q : n.size ≤ 1048576
    · have d1 : decide ((1048576 : Int) < (n.size : Int)) = false := decide_eq_false (by omega)
      have d2 : (1048576 : Int) < (a.size : Int) + (n.size : Int) := by omega
      go_enter Tryd.func12, Tryd.ntmps12
      go_wp2_with fail
      go_ret
      exact ⟨false, rfl, rfl⟩
    · have d1 : (1048576 : Int) < (n.size : Int) := by omega
      go_enter Tryd.func12, Tryd.ntmps12
      go_wp2_with fail
      go_ret
      exact ⟨false, rfl, rfl⟩
  have e2 : decide ((1048576 : Int) < (n.size : Int)) = false := decide_eq_false (by omega)
  have s2 : decide ((1048576 : Int) < (a.size : Int) + (n.size : Int)) = false := decide_eq_false (by omega)
  by_cases q3 : a.size + n.size + u.size ≤ 1048576
  case neg =>
    by_cases q : u.size ≤ 1048576
    · have d1 : decide ((1048576 : Int) < (u.size : Int)) = false := decide_eq_false (by omega)
      have d2 : (1048576 : Int) < (a.size : Int) + (n.size : Int) + (u.size : Int) := by omega
      go_enter Tryd.func12, Tryd.ntmps12
      go_wp2_with fail
      go_ret
      exact ⟨false, rfl, rfl⟩
    · have d1 : (1048576 : Int) < (u.size : Int) := by omega
      go_enter Tryd.func12, Tryd.ntmps12
      go_wp2_with fail
      go_ret
      exact ⟨false, rfl, rfl⟩
  have e3 : decide ((1048576 : Int) < (u.size : Int)) = false := decide_eq_false (by omega)
  have s3 : decide ((1048576 : Int) < (a.size : Int) + (n.size : Int) + (u.size : Int)) = false := decide_eq_false (by omega)
  by_cases q4 : a.size + n.size + u.size + k.size ≤ 1048576
  case neg =>
    by_cases q : k.size ≤ 1048576
    · have d1 : decide ((1048576 : Int) < (k.size : Int)) = false := decide_eq_false (by omega)
      have d2 : (1048576 : Int) < (a.size : Int) + (n.size : Int) + (u.size : Int) + (k.size : Int) := by omega
      go_enter Tryd.func12, Tryd.ntmps12
      go_wp2_with fail
      go_ret
      exact ⟨false, rfl, rfl⟩
    · have d1 : (1048576 : Int) < (k.size : Int) := by omega
      go_enter Tryd.func12, Tryd.ntmps12
      go_wp2_with fail
      go_ret
      exact ⟨false, rfl, rfl⟩
  have e4 : decide ((1048576 : Int) < (k.size : Int)) = false := decide_eq_false (by omega)
  have s4 : decide ((1048576 : Int) < (a.size : Int) + (n.size : Int) + (u.size : Int) + (k.size : Int)) = false := decide_eq_false (by omega)
  go_enter Tryd.func12, Tryd.ntmps12
  go_wp2_with fail
  go_ret
  exact ⟨true, rfl, rfl⟩

def wA : ByteArray := ⟨#[97, 100, 100, 114, 101, 115, 115]⟩
def wN : ByteArray := ⟨#[110, 97, 109, 101]⟩
def wU : ByteArray := ⟨#[117, 110, 115, 117, 98, 115, 99, 114, 105, 98, 101, 117, 114, 108]⟩
def fieldV (a n u low : ByteArray) : ByteArray × Bool :=
  if low = wA then (a, true) else if low = wN then (if n = ⟨#[]⟩ then a else n, true) else if low = wU then (u, true) else (⟨#[]⟩, false)
set_option maxHeartbeats 2000000 in
theorem field23 (a n u k : ByteArray) (w : World) (hk : k.size ≤ 262144) (he : Env w) :
    Calls Tryd.prog 23 #[.agg #[.string a, .string n, .string u], .string k] w fun e w' => e = .returned (.tuple #[.string (fieldV a n u (lowOf k)).1, .bool (fieldV a n u (lowOf k)).2]) ∧ Below w.heap.size w w' := by
  obtain ⟨low, hlow⟩ : ∃ low, lowOf k = low := ⟨_, rfl⟩
  rw [hlow]
  have HLow := hide hlow
  clear hlow
  obtain ⟨x, t, hV⟩ : ∃ x t, fieldV a n u low = (x, t) := ⟨_, _, rfl⟩
  rw [hV]
  go_enter Tryd.func23, Tryd.ntmps23
  go_wp2_with fail
  have hb0 : Below w.heap.size w (w.alloc (.cells #[.string a, .string n, .string u] 42)) := (Below.refl _ _).alloc (Nat.le_refl _) _
  have c0 : (w.alloc (.cells #[.string a, .string n, .string u] 42)).cell? ⟨w.heap.size, 0, none⟩ = some (.string a) := World.cell?_alloc_at _ _ _ _ rfl
  have c1 : (w.alloc (.cells #[.string a, .string n, .string u] 42)).cell? ⟨w.heap.size, 1, none⟩ = some (.string n) := World.cell?_alloc_at _ _ _ _ rfl
  have c2 : (w.alloc (.cells #[.string a, .string n, .string u] 42)).cell? ⟨w.heap.size, 2, none⟩ = some (.string u) := World.cell?_alloc_at _ _ _ _ rfl
  have hlt : w.heap.size < (w.alloc (.cells #[.string a, .string n, .string u] 42)).heap.size := by simp
  generalize w.alloc (.cells #[.string a, .string n, .string u] 42) = w0 at *
  refine (low28 k w0 (by omega) (he.below hb0)).mono ?_
  rintro e w1 ⟨rfl, hb1⟩
  rw [unhide HLow]
  have d0 := (hb1.cell (p := ⟨w.heap.size, 0, none⟩) hlt).trans c0
  have d1 := (hb1.cell (p := ⟨w.heap.size, 1, none⟩) hlt).trans c1
  have d2 := (hb1.cell (p := ⟨w.heap.size, 2, none⟩) hlt).trans c2
  have HB := hide (hb0.trans (hb1.mono hb0.size))
  clear hb0 hb1 c0 c1 c2 he HLow
  by_cases hA : low = wA
  · have hx : x = a ∧ t = true := by have := hV; simp [fieldV, hA] at this; exact ⟨this.1.symm, this.2⟩
    subst hA
    unfold wA
    have HX := hide hx
    clear hx hV
    go_wp2_with fail
    exact bodyPost_ret (v := .tuple #[.string a, .bool true]) (by simp [results, Tryd.results23, go_sem]) rfl ⟨by rw [(unhide HX).1, (unhide HX).2], unhide HB⟩
  have bA : (low.toList == [97, 100, 100, 114, 101, 115, 115]) = false := ne_list (b := wA) hA
  by_cases hN : low = wN
  · have nA : wN ≠ wA := by decide
    by_cases hn : n = ⟨#[]⟩
    · have hx : x = a ∧ t = true := by have := hV; simp [fieldV, nA, hN, hn] at this; exact ⟨this.1.symm, this.2⟩
      subst hN
      subst hn
      clear hA nA bA
      unfold wN
      have HX := hide hx
      clear hx hV
      go_wp2_with fail
      exact bodyPost_ret (v := .tuple #[.string a, .bool true]) (by simp [results, Tryd.results23, go_sem]) rfl ⟨by rw [(unhide HX).1, (unhide HX).2], unhide HB⟩
    · have hx : x = n ∧ t = true := by have := hV; simp [fieldV, nA, hN, hn] at this; exact ⟨this.1.symm, this.2⟩
      have bn := ne_empty hn
      subst hN
      clear hA hn nA bA
      unfold wN
      have HX := hide hx
      clear hx hV
      go_wp2_with fail
      exact bodyPost_ret (v := .tuple #[.string n, .bool true]) (by simp [results, Tryd.results23, go_sem]) rfl ⟨by rw [(unhide HX).1, (unhide HX).2], unhide HB⟩
  have bN : (low.toList == [110, 97, 109, 101]) = false := ne_list (b := wN) hN
  by_cases hU : low = wU
  · have nA : wU ≠ wA := by decide
    have nN : wU ≠ wN := by decide
    have hx : x = u ∧ t = true := by have := hV; simp [fieldV, nA, nN, hU] at this; exact ⟨this.1.symm, this.2⟩
    subst hU
    clear hA hN nA nN bA bN
    unfold wU
    have HX := hide hx
    clear hx hV
    go_wp2_with fail
    exact bodyPost_ret (v := .tuple #[.string u, .bool true]) (by simp [results, Tryd.results23, go_sem]) rfl ⟨by rw [(unhide HX).1, (unhide HX).2], unhide HB⟩
  · have bU : (low.toList == [117, 110, 115, 117, 98, 115, 99, 114, 105, 98, 101, 117, 114, 108]) = false := ne_list (b := wU) hU
    have hx : x = ⟨#[]⟩ ∧ t = false := by have := hV; simp [fieldV, hA, hN, hU] at this; exact ⟨this.1.symm, this.2⟩
    clear hA hN hU
    have HX := hide hx
    clear hx hV
    go_wp2_with fail
    exact bodyPost_ret (v := .tuple #[.string ⟨#[]⟩, .bool false]) (by simp [results, Tryd.results23, go_sem]) rfl ⟨by rw [(unhide HX).1, (unhide HX).2], unhide HB⟩

set_option maxHeartbeats 2000000 in
theorem zzRec13 (a n u k : ByteArray) (w : World) (hk : k.size ≤ 262144) (he : Env w) :
    Calls Tryd.prog 13 #[.string a, .string n, .string u, .string k] w fun e w' => e = .returned (.tuple #[.string (fieldV a n u (lowOf k)).1, .bool (fieldV a n u (lowOf k)).2]) ∧ Below w.heap.size w w' := by
  have H := hide (field23 a n u k w hk he)
  generalize fieldV a n u (lowOf k) = V at *
  obtain ⟨x, t⟩ := V
  clear he
  go_enter Tryd.func13, Tryd.ntmps13
  go_wp2_with fail
  refine (unhide H).mono ?_
  rintro e w1 ⟨rfl, hb1⟩
  have HB := hide hb1
  clear hb1
  go_wp2_with fail
  exact bodyPost_ret (v := .tuple #[.string x, .bool t]) (by simp [results, Tryd.results13, go_sem]) rfl ⟨rfl, unhide HB⟩

/-! ### zzFoldsTo -/
theorem drop_at (s : ByteArray) (i : Nat) (h : i < s.size) : s.data.toList.drop i = s[i] :: s.data.toList.drop (i + 1) := by
  have hl : i < s.data.toList.length := by rw [← Lib.size_eq]; exact h
  rw [List.drop_eq_getElem_cons hl]
  rfl
theorem byte_eq {x : UInt8} {n : Nat} (hn : n < 256) (h : ((x.toNat : Int) == (n : Int)) = true) : x = UInt8.ofNat n := by
  have := beq_iff_eq.1 h
  apply UInt8.toNat_inj.1
  rw [UInt8.toNat_ofNat']
  omega
theorem byte_ne {x : UInt8} {n : Nat} (hn : n < 256) (h : ((x.toNat : Int) == (n : Int)) = false) : x ≠ UInt8.ofNat n := fun e => by
  have := beq_eq_false_iff_ne.1 h
  rw [e, UInt8.toNat_ofNat'] at this
  omega
/-- What the loop keeps. -/
def Inv (key t : ByteArray) (i j : Nat) : Prop := Lib.toLowerD key.data.toList = t.data.toList ↔ Lib.toLowerD (key.data.toList.drop i) = t.data.toList.drop j
theorem inv_start (key t : ByteArray) : Inv key t 0 0 := Iff.rfl
/-- One rune read: it lowers to m, i2 is behind it. -/
def Reads (key : ByteArray) (i i2 : Nat) (m : UInt8) : Prop := Lib.toLowerD (key.data.toList.drop i) = m :: Lib.toLowerD (key.data.toList.drop i2)
theorem reads_ascii {key : ByteArray} {i : Nat} (h : i < key.size) (ha : key[i].toNat < 128) : Reads key i (i + 1) (lowA key[i]) := by
  unfold Reads
  rw [drop_at key i h, lowD_ascii _ _ ha]
theorem reads_i {key : ByteArray} {i : Nat} (h : i + 1 < key.size) (h0 : ((key[i].toNat : Int) == 196) = true) (h1 : ((key[i + 1].toNat : Int) == 176) = true) : Reads key i (i + 2) 105 := by
  unfold Reads
  rw [drop_at key i (by omega), drop_at key (i + 1) h, show key[i] = 196 from byte_eq (n := 196) (by omega) h0, show key[i + 1] = 176 from byte_eq (n := 176) (by omega) h1, lowD_i]
theorem reads_k {key : ByteArray} {i : Nat} (h : i + 2 < key.size) (h0 : ((key[i].toNat : Int) == 226) = true) (h1 : ((key[i + 1].toNat : Int) == 132) = true) (h2 : ((key[i + 2].toNat : Int) == 170) = true) : Reads key i (i + 3) 107 := by
  unfold Reads
  rw [drop_at key i (by omega), drop_at key (i + 1) (by omega), drop_at key (i + 2) h, show key[i] = 226 from byte_eq (n := 226) (by omega) h0, show key[i + 1] = 132 from byte_eq (n := 132) (by omega) h1, show key[i + 2] = 170 from byte_eq (n := 170) (by omega) h2, lowD_k]
theorem inv_next {key t : ByteArray} {i i2 j : Nat} {m : UInt8} (h : Inv key t i j) (hr : Reads key i i2 m) (hj : j < t.size) {v : Int} (hv : (m.toNat : Int) = v) (he : ((t[j].toNat : Int) != v) = false) : Inv key t i2 (j + 1) := by
  have hm : t[j] = m := by
    have : ¬ ((t[j].toNat : Int) ≠ v) := by simpa using he
    apply UInt8.toNat_inj.1
    omega
  unfold Inv Reads at *
  rw [h, hr, drop_at t j hj, hm]
  simp
theorem inv_over {key t : ByteArray} {i i2 j : Nat} {m : UInt8} (h : Inv key t i j) (hr : Reads key i i2 m) (hj : t.size ≤ j) : ¬ Lib.toLowerD key.data.toList = t.data.toList := by
  unfold Inv Reads at *
  have e0 : t.data.toList.drop j = [] := List.drop_eq_nil_of_le (by rw [← Lib.size_eq]; exact hj)
  rw [h, hr, e0]
  simp
theorem inv_miss {key t : ByteArray} {i i2 j : Nat} {m : UInt8} (h : Inv key t i j) (hr : Reads key i i2 m) (hj : j < t.size) {v : Int} (hv : (m.toNat : Int) = v) (he : ((t[j].toNat : Int) != v) = true) : ¬ Lib.toLowerD key.data.toList = t.data.toList := by
  have hm : ¬ m = t[j] := by
    intro e
    rw [← hv, e] at he
    simp at he
  unfold Inv Reads at *
  rw [h, hr, drop_at t j hj]
  simp [hm]
theorem inv_end {key t : ByteArray} {j : Nat} (h : Inv key t key.size j) (hj : j ≤ t.size) : ((j : Int) == (t.size : Int)) = decide (Lib.toLowerD key.data.toList = t.data.toList) := by
  unfold Inv at h
  rw [List.drop_eq_nil_of_le (by rw [← Lib.size_eq]; exact Nat.le_refl _)] at h
  rw [Bool.eq_iff_iff, beq_iff_eq, decide_eq_true_eq, h]
  have e : Lib.toLowerD [] = [] := rfl
  rw [e]
  constructor
  · intro e2
    rw [List.drop_eq_nil_of_le (by rw [← Lib.size_eq]; omega)]
  · intro e2
    have := congrArg List.length e2
    rw [List.length_drop, ← Lib.size_eq] at this
    simp at this
    omega
theorem inv_bad {key t : ByteArray} {i j : Nat} (h : Inv key t i j) (hi : i < key.size) (hA : ∀ b ∈ t.data.toList, b.toNat < 128) (h0 : 128 ≤ key[i].toNat)
    (h1 : ¬ (((key[i].toNat : Int) == 196) = true ∧ ∃ g : i + 1 < key.size, ((key[i + 1].toNat : Int) == 176) = true))
    (h2 : ¬ (((key[i].toNat : Int) == 226) = true ∧ ∃ g : i + 2 < key.size, ((key[i + 1].toNat : Int) == 132) = true ∧ ((key[i + 2].toNat : Int) == 170) = true)) : ¬ Lib.toLowerD key.data.toList = t.data.toList := by
  unfold Inv at h
  rw [h, drop_at key i hi]
  have hd : ∀ k (x : UInt8), (key.data.toList.drop k).head? = some x → ∃ g : k < key.size, key[k] = x := fun k x e => by
    by_cases g : k < key.size
    · rw [drop_at key k g] at e
      exact ⟨g, by simpa using e⟩
    · rw [List.drop_eq_nil_of_le (by rw [← Lib.size_eq]; omega)] at e
      cases e
  obtain ⟨b, q, e, hb⟩ := lowD_other key[i] (key.data.toList.drop (i + 1)) h0 (fun ⟨e1, e2⟩ => h1 ⟨by rw [e1]; rfl, by
      obtain ⟨g, e3⟩ := hd _ _ e2
      exact ⟨g, by rw [e3]; rfl⟩⟩) (fun ⟨e1, e2, e3⟩ => h2 ⟨by rw [e1]; rfl, by
      obtain ⟨g, e4⟩ := hd _ _ e2
      rw [List.tail_drop] at e3
      obtain ⟨g2, e5⟩ := hd _ _ e3
      exact ⟨g2, by rw [e4]; rfl, by rw [e5]; rfl⟩⟩)
  rw [e]
  intro e2
  have hm : b ∈ t.data.toList := by
    have : b ∈ t.data.toList.drop j := by rw [← e2]; exact List.mem_cons_self ..
    exact List.mem_of_mem_drop this
  have := hA b hm
  omega
theorem low_not {c : UInt8} (h : ¬ (65 ≤ c.toNat ∧ c.toNat ≤ 90)) : lowA c = c := by simp only [lowA, if_neg h]
theorem low_up {c : UInt8} (h : 65 ≤ c.toNat ∧ c.toNat ≤ 90) : ((lowA c).toNat : Int) = (c.toNat : Int) + 32 := by
  simp only [lowA, if_pos h]
  rw [UInt8.toNat_add]
  show (((c.toNat + 32) % 256 : Nat) : Int) = _
  omega
abbrev Fo (key t : ByteArray) (w : World) (e : Ending) (w' : World) : Prop := e = .returned (.bool (decide (Lib.toLowerD key.data.toList = t.data.toList))) ∧ w' = w
theorem fo_no {key t : ByteArray} {w : World} (h : ¬ Lib.toLowerD key.data.toList = t.data.toList) : Fo key t w (.returned (.bool false)) w := ⟨by rw [decide_eq_false h], rfl⟩
set_option maxRecDepth 100000 in
set_option maxHeartbeats 4000000 in
theorem folds14 (key t : ByteArray) (w : World) (hk : key.size ≤ 262144) (ht : t.size ≤ 100) (hA : ∀ b ∈ t.data.toList, b.toNat < 128) :
    Calls Tryd.prog 14 #[.string key, .string t] w (Fo key t w) := by
  have HA := hide hA
  clear hA
  go_enter Tryd.func14, Tryd.ntmps14
  go_wp2_with fail
  go_loop [5, 6] (fun a b => ∃ i j : Nat, i ≤ key.size ∧ j ≤ t.size ∧ a = .int .i64 i ∧ b = .int .i64 j ∧ Hid (Inv key t i j)) (fun a _ => (key.size : Int).toNat - (intOf a).toNat)
  case atStart => exact ⟨0, 0, Nat.zero_le _, Nat.zero_le _, rfl, rfl, hide (inv_start key t)⟩
  case round =>
    obtain ⟨i, j, hi, hj, rfl, rfl, HI⟩ := hrel
    by_cases hlt : i < key.size
    · by_cases ha : key[i].toNat < 128
      · have HR := hide (reads_ascii hlt ha)
        have ha' : ((key[i].toNat : Int) < 128) := by omega
        by_cases hu : 65 ≤ key[i].toNat ∧ key[i].toNat ≤ 90
        · have HV := hide (low_up hu)
          have hu1 : (65 : Int) ≤ (key[i].toNat : Int) := by omega
          have hu2 : (key[i].toNat : Int) ≤ 90 := by omega
          by_cases hjt : j < t.size
          · have hjd : decide ((t.size : Int) ≤ (j : Int)) = false := decide_eq_false (by omega)
            cases hne : ((t[j].toNat : Int) != ((key[i].toNat : Int) + 32))
            · go_wp2_with fail
              go_round
              case rel => exact ⟨i + 1, j + 1, by omega, by omega, by go_num, by go_num, hide (inv_next (unhide HI) (unhide HR) hjt (unhide HV) hne)⟩
              case measure => simp [intOf]; omega
            · go_wp2_with fail
              go_ret
              exact fo_no (inv_miss (unhide HI) (unhide HR) hjt (unhide HV) hne)
          · have hjd : (t.size : Int) ≤ (j : Int) := by omega
            go_wp2_with fail
            go_ret
            exact fo_no (inv_over (unhide HI) (unhide HR) (by omega))
        · have HV := hide (congrArg (fun c : UInt8 => (c.toNat : Int)) (low_not hu))
          by_cases hu1 : 65 ≤ key[i].toNat
          · have hu1' : (65 : Int) ≤ (key[i].toNat : Int) := by omega
            have hu2 : decide ((key[i].toNat : Int) ≤ 90) = false := decide_eq_false (by omega)
            clear hu hu1
            by_cases hjt : j < t.size
            · have hjd : decide ((t.size : Int) ≤ (j : Int)) = false := decide_eq_false (by omega)
              cases hne : ((t[j].toNat : Int) != (key[i].toNat : Int))
              · go_wp2_with fail
                go_round
                case rel => exact ⟨i + 1, j + 1, by omega, by omega, by go_num, by go_num, hide (inv_next (unhide HI) (unhide HR) hjt (unhide HV) hne)⟩
                case measure => simp [intOf]; omega
              · go_wp2_with fail
                go_ret
                exact fo_no (inv_miss (unhide HI) (unhide HR) hjt (unhide HV) hne)
            · have hjd : (t.size : Int) ≤ (j : Int) := by omega
              go_wp2_with fail
              go_ret
              exact fo_no (inv_over (unhide HI) (unhide HR) (by omega))
          · have hu1' : decide ((65 : Int) ≤ (key[i].toNat : Int)) = false := decide_eq_false (by omega)
            clear hu hu1
            by_cases hjt : j < t.size
            · have hjd : decide ((t.size : Int) ≤ (j : Int)) = false := decide_eq_false (by omega)
              cases hne : ((t[j].toNat : Int) != (key[i].toNat : Int))
              · go_wp2_with fail
                go_round
                case rel => exact ⟨i + 1, j + 1, by omega, by omega, by go_num, by go_num, hide (inv_next (unhide HI) (unhide HR) hjt (unhide HV) hne)⟩
                case measure => simp [intOf]; omega
              · go_wp2_with fail
                go_ret
                exact fo_no (inv_miss (unhide HI) (unhide HR) hjt (unhide HV) hne)
            · have hjd : (t.size : Int) ≤ (j : Int) := by omega
              go_wp2_with fail
              go_ret
              exact fo_no (inv_over (unhide HI) (unhide HR) (by omega))
      · have ha' : decide ((key[i].toNat : Int) < 128) = false := decide_eq_false (by omega)
        cases hc4 : ((key[i].toNat : Int) == 196)
        · cases he2 : ((key[i].toNat : Int) == 226)
          · go_wp2_with fail
            go_ret
            exact fo_no (inv_bad (unhide HI) hlt (unhide HA) (by omega) (fun ⟨g, _⟩ => by rw [hc4] at g; cases g) (fun ⟨g, _⟩ => by rw [he2] at g; cases g))
          · by_cases hi2 : i + 2 < key.size
            · cases h84 : ((key[i + 1].toNat : Int) == 132)
              · go_wp2_with fail
                go_ret
                exact fo_no (inv_bad (unhide HI) hlt (unhide HA) (by omega) (fun ⟨g, _⟩ => by rw [hc4] at g; cases g) (fun ⟨_, _, g, _⟩ => by rw [h84] at g; cases g))
              · cases haa : ((key[i + 2].toNat : Int) == 170)
                · go_wp2_with fail
                  go_ret
                  exact fo_no (inv_bad (unhide HI) hlt (unhide HA) (by omega) (fun ⟨g, _⟩ => by rw [hc4] at g; cases g) (fun ⟨_, _, _, g⟩ => by rw [haa] at g; cases g))
                · have HR := hide (reads_k hi2 he2 h84 haa)
                  by_cases hjt : j < t.size
                  · have hjd : decide ((t.size : Int) ≤ (j : Int)) = false := decide_eq_false (by omega)
                    cases hne : ((t[j].toNat : Int) != 107)
                    · go_wp2_with fail
                      go_round
                      case rel => exact ⟨i + 3, j + 1, by omega, by omega, by go_num, by go_num, hide (inv_next (unhide HI) (unhide HR) hjt rfl hne)⟩
                      case measure => simp [intOf]; omega
                    · go_wp2_with fail
                      go_ret
                      exact fo_no (inv_miss (unhide HI) (unhide HR) hjt rfl hne)
                  · have hjd : (t.size : Int) ≤ (j : Int) := by omega
                    go_wp2_with fail
                    go_ret
                    exact fo_no (inv_over (unhide HI) (unhide HR) (by omega))
            · have hi2' : decide ((i : Int) + 2 < (key.size : Int)) = false := decide_eq_false (by omega)
              go_wp2_with fail
              go_ret
              exact fo_no (inv_bad (unhide HI) hlt (unhide HA) (by omega) (fun ⟨g, _⟩ => by rw [hc4] at g; cases g) (fun ⟨_, g, _⟩ => absurd g hi2))
        · have he2 : ((key[i].toNat : Int) == 226) = false := by
            have := beq_iff_eq.1 hc4
            exact beq_eq_false_iff_ne.2 (by omega)
          by_cases hi1 : i + 1 < key.size
          · cases hb0 : ((key[i + 1].toNat : Int) == 176)
            · go_wp2_with fail
              go_ret
              exact fo_no (inv_bad (unhide HI) hlt (unhide HA) (by omega) (fun ⟨_, _, g⟩ => by rw [hb0] at g; cases g) (fun ⟨g, _⟩ => by rw [he2] at g; cases g))
            · have HR := hide (reads_i hi1 hc4 hb0)
              by_cases hjt : j < t.size
              · have hjd : decide ((t.size : Int) ≤ (j : Int)) = false := decide_eq_false (by omega)
                cases hne : ((t[j].toNat : Int) != 105)
                · go_wp2_with fail
                  go_round
                  case rel => exact ⟨i + 2, j + 1, by omega, by omega, by go_num, by go_num, hide (inv_next (unhide HI) (unhide HR) hjt rfl hne)⟩
                  case measure => simp [intOf]; omega
                · go_wp2_with fail
                  go_ret
                  exact fo_no (inv_miss (unhide HI) (unhide HR) hjt rfl hne)
              · have hjd : (t.size : Int) ≤ (j : Int) := by omega
                go_wp2_with fail
                go_ret
                exact fo_no (inv_over (unhide HI) (unhide HR) (by omega))
          · have hi1' : decide ((i : Int) + 1 < (key.size : Int)) = false := decide_eq_false (by omega)
            go_wp2_with fail
            go_ret
            exact fo_no (inv_bad (unhide HI) hlt (unhide HA) (by omega) (fun ⟨_, g, _⟩ => absurd g hi1) (fun ⟨g, _⟩ => by rw [he2] at g; cases g))
    · obtain rfl : i = key.size := by omega
      have he := inv_end (unhide HI) hj
      go_wp2_with fail
      go_ret
      exact ⟨rfl, rfl⟩
end Go.Proofs.Qxb6602105aDoor
