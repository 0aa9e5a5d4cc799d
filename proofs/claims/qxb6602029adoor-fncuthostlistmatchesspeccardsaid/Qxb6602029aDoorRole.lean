/-
  THE WALK of cutHostList: a role whose map reads as D.
-/
import Derived.Test.Qxb6602029aDoorUrl
import Derived.Test.Qxb6602029aDoorLowShelf
import Derived.Maps.OwnSet
import Derived.Deep.RegionWith
namespace Go.Proofs.Qxb6602029aDoor
open Go.RowKit Go.Maps Go.WideMaps

/-! ### how an element of type 'scheme' reads: by its flag alone -/
def RS : Value → Option (DataW Unit × List MemPlace)
  | .agg cs => match cs.toList with
    | [.string _, .bool b] => some (.lit (.bool b), [])
    | _ => none
  | _ => none
theorem RS_mk (s : ByteArray) (b : Bool) : RS (.agg #[.string s, .bool b]) = some (.lit (.bool b), []) := rfl
theorem RS_inv {v : Value} {z : DataW Unit × List MemPlace} (h : RS v = some z) : ∃ s b, v = .agg #[.string s, .bool b] ∧ z = (.lit (.bool b), []) := by
  unfold RS at h
  split at h
  · rename_i cs
    split at h
    · rename_i s b hl
      cases h
      exact ⟨s, b, by rw [← Array.toArray_toList (xs := cs), hl], rfl⟩
    · cases h
  · cases h
theorem keyed9 : Keyed Tryd.prog 9 := string_keyed Tryd.underlying9
theorem zero38 (w : World) : (zeroValue 38).run Tryd.prog w = .ok (.agg #[.string ⟨#[]⟩, .bool false]) w := by kernel_rfl
abbrev Owns (w : World) (b n : Nat) (D : DataW Unit) : Prop := w.ownsMap Tryd.prog 9 RS b n D
theorem look {w : World} {b n : Nat} {D : DataW Unit} (h : Owns w b n D) (s : ByteArray) (hs : s.size ≤ maxLen) :
    ∃ x f, (Instr.lookup 35 (.map (some b)) (.string s) false).run Tryd.prog w = .ok (.agg #[.string x, .bool f]) w ∧ D.atKey (.string s.data.toList) (.lit (.bool false)) = .lit (.bool f) := by
  obtain ⟨v, ps, hrun, hv⟩ := World.ownsMap.lookup (t := 35) (e := 38) h keyed9 Tryd.underlying35 (zero38 w) (RS_mk _ _) (keyOf_string_mk Tryd.underlying9 hs)
  obtain ⟨x, f, rfl, hz⟩ := RS_inv hv
  exact ⟨x, f, hrun, (Prod.mk.inj hz).1⟩
theorem Owns.below {w w' : World} {b n : Nat} {D : DataW Unit} (h : Owns w b n D) {B : Nat} (hb : Below B w w') (hB : b < B) : Owns w' b n D := by
  obtain ⟨es, clock, hm, r⟩ := h
  exact ⟨es, clock, (hb.block _ hB).trans hm, r⟩

/-! ### the library's variables -/
structure Env (w : World) : Prop where
  mx : Mx w
  cv : Lib.CaseVar 0 Lib.caseA w
  ut : Lib.Utf8Tabs 2 3 w
theorem Env.below {w w' : World} (h : Env w) (hb : Below w.heap.size w w') : Env w' := ⟨h.mx.below hb, Lib.CaseVar_below h.cv hb, Utf8Tabs_below h.ut hb⟩

def lowOf (s : ByteArray) : ByteArray := ⟨(Lib.toLowerD s.data.toList).toArray⟩
theorem low19 (s : ByteArray) (w : World) (hs : s.size ≤ 1048576) (he : Env w) :
    Calls Tryd.prog 19 #[.string s] w fun e w' => e = .returned (.string (lowOf s)) ∧ Below w.heap.size w w' :=
  Any.strings_ToLower_any Tryd.lays159 Tryd.Builder_Extra_159 s w (by omega) he.cv he.ut
theorem mapGo_len (f : Int → Int) : ∀ (n : Nat) (l : List UInt8), (Lib.mapGoD f n l).length ≤ 4 * n
  | 0, _ => by simp [Lib.mapGoD]
  | n + 1, l => by
    unfold Lib.mapGoD
    split
    · simp
    · have ih := mapGo_len f n (l.drop (Lib.decodeL l).2)
      rw [List.length_append]
      have h1 : (if 0 ≤ f (Lib.decodeL l).1 then Lib.encodeRune (f (Lib.decodeL l).1) else []).length ≤ 4 := by
        split
        · unfold Lib.encodeRune
          rw [List.length_map]
          exact (Lib.encodeRuneZ_length _).2
        · simp
      omega
theorem low_size (s : ByteArray) : (lowOf s).size ≤ 4 * s.size := by
  unfold lowOf Lib.toLowerD Lib.mapD
  have := mapGo_len Lib.toLowerU s.data.toList.length s.data.toList
  show (_ : List UInt8).toArray.size ≤ _
  rw [List.size_toArray, Lib.size_eq]
  exact this

set_option maxHeartbeats 1000000 in
theorem role_nourl (name raw : ByteArray) (b : Nat) (w : World) (hs : raw.size ≤ 1048576) (he : Env w) (hf : foundOf raw = false) :
    Calls Tryd.prog 23 #[.agg #[.string name, .map (some b)], .string raw] w fun e w' => e = .returned (.tuple #[.string raw, .string ⟨#[]⟩, .bool false]) ∧ Below w.heap.size w w' := by
  have HE := hide he
  have HF := hide hf
  clear he hf
  go_enter Tryd.func23, Tryd.ntmps23
  go_wp2_with fail
  have hb0 : Below w.heap.size w (w.alloc (.cells #[.string name, .map (some b)] 40)) := (Below.refl _ _).alloc (Nat.le_refl _) _
  have hsz0 : (w.alloc (.cells #[.string name, .map (some b)] 40)).heap.size = w.heap.size + 1 := by simp
  have HE0 := hide ((unhide HE).below hb0)
  refine (url_no raw _ hs (unhide HE0).mx (unhide HF)).mono ?_
  rintro e w1 ⟨rfl, hb1⟩
  go_wp2_with fail
  have hb2 : Below w.heap.size w (w1.alloc (.cells #[E0, E0, E0, E0] 56)) := (hb0.trans (hb1.mono (by omega))).alloc (by have := hb1.size; omega) _
  generalize w1.alloc (.cells #[E0, E0, E0, E0] 56) = w2 at *
  go_quiet (fail)
  go_wp2_with fail
  go_ret3
  exact ⟨rfl, below_drewN hb2 _⟩

theorem field38 (x : ByteArray) (f : Bool) (w : World) : (Instr.field 38 (.agg #[.string x, .bool f]) 1).run Tryd.prog w = .ok (.bool f) w := by kernel_rfl
/-- What stands behind the lower-casing. -/
theorem after_low {w2 w3 : World} {B0 B1 b n : Nat} {D : DataW Unit} {f : Bool} {name S U H R : ByteArray} (hb : Below w2.heap.size w2 w3) (r0 : w2.heap[B0]? = some (.cells #[.string name, .map (some b)] 40))
    (r1 : w2.heap[B1]? = some (.cells #[.string S, .string U, .string H, .string R] 56)) (hD : Owns w2 b n D) (hl : (lowOf S).size ≤ maxLen) (hat : D.atKey (.string (lowOf S).data.toList) (.lit (.bool false)) = .lit (.bool f)) :
    ∃ x, w3.cell? ⟨B0, 1, none⟩ = some (.map (some b)) ∧ w3.cell? ⟨B1, 0, none⟩ = some (.string S) ∧ w3.cell? ⟨B1, 1, none⟩ = some (.string U) ∧ w3.cell? ⟨B1, 2, none⟩ = some (.string H) ∧ w3.cell? ⟨B1, 3, none⟩ = some (.string R) ∧
      (Instr.lookup 35 (.map (some b)) (.string (lowOf S)) false).run Tryd.prog w3 = .ok (.agg #[.string x, .bool f]) w3 := by
  have q0 := (hb.block _ (row_lt r0)).trans r0
  have q1 := (hb.block _ (row_lt r1)).trans r1
  obtain ⟨x, g, hrun, hg⟩ := look (hD.below hb (World.ownsMap.lt hD)) (lowOf S) hl
  rw [hat] at hg
  cases hg
  exact ⟨x, row_cell q0 1, row_cell q1 0, row_cell q1 1, row_cell q1 2, row_cell q1 3, hrun⟩

set_option maxHeartbeats 2000000 in
set_option maxRecDepth 100000 in
theorem role_url (name raw S U H R : ByteArray) (b n : Nat) (D : DataW Unit) (f : Bool) (w : World) (hS : S.size ≤ 1048576) (hU : U.size ≤ 1048576) (hR : R.size ≤ 1048576) (he : Env w) (hD : Owns w b n D)
    (hat : D.atKey (.string (lowOf S).data.toList) (.lit (.bool false)) = .lit (.bool f))
    (hu : ∀ w, Env w → Calls Tryd.prog 30 #[.string raw] w fun e w' => e = .returned (.tuple #[.agg #[.string S, .string U, .string H, .string R], .bool true]) ∧ Below w.heap.size w w') :
    Calls Tryd.prog 23 #[.agg #[.string name, .map (some b)], .string raw] w fun e w' => e = .returned (if f then .tuple #[.string (S ++ ⟨#[58, 47, 47]⟩ ++ U ++ R), .string H, .bool true] else .tuple #[.string raw, .string ⟨#[]⟩, .bool false]) ∧ Below w.heap.size w w' := by
  have HE := hide he
  have HU := hide hu
  have HD := hide hD
  have HAT := hide hat
  clear he hu hD hat
  go_enter Tryd.func23, Tryd.ntmps23
  go_wp2_with fail
  have hb0 : Below w.heap.size w (w.alloc (.cells #[.string name, .map (some b)] 40)) := (Below.refl _ _).alloc (Nat.le_refl _) _
  have hr0 := hide (row_new w (.cells #[.string name, .map (some b)] 40) 0)
  have HE0 := hide ((unhide HE).below hb0)
  have HD0 := hide ((unhide HD).below hb0 (World.ownsMap.lt (unhide HD)))
  refine (unhide HU _ (unhide HE0)).mono ?_
  rintro e w1 ⟨rfl, hb1⟩
  go_wp2_with fail
  have hsz0 : (w.alloc (.cells #[.string name, .map (some b)] 40)).heap.size = w.heap.size + 1 := by simp
  have hB : w.heap.size < w1.heap.size := by have := hb1.size; omega
  have r0 : (w1.alloc (.cells #[.string S, .string U, .string H, .string R] 56)).heap[w.heap.size]? = some (.cells #[.string name, .map (some b)] 40) :=
    (Below.heap_alloc _ _ _ hB).trans ((hb1.block _ (by omega)).trans (unhide hr0))
  have r1 : (w1.alloc (.cells #[.string S, .string U, .string H, .string R] 56)).heap[w1.heap.size]? = some (.cells #[.string S, .string U, .string H, .string R] 56) := row_new w1 _ 0
  have hb01 := hb0.trans (hb1.mono (by omega))
  have hb2 : Below w.heap.size w (w1.alloc (.cells #[.string S, .string U, .string H, .string R] 56)) := hb01.alloc (by omega) _
  have hE2 : Env (w1.alloc (.cells #[.string S, .string U, .string H, .string R] 56)) := (unhide HE).below hb2
  have hD2 : Owns (w1.alloc (.cells #[.string S, .string U, .string H, .string R] 56)) b n D := (unhide HD).below hb2 (World.ownsMap.lt (unhide HD))
  have HB := hide hb2
  have HE2 := hide (hE2.below (Below.refl _ _).drew)
  have HD2 := hide hD2
  have R0 := hide r0
  have R1 := hide r1
  clear hb0 HE0 HD0 hr0 hb1 hsz0 hb01 hb2 hE2 hD2
  generalize w1.alloc (.cells #[.string S, .string U, .string H, .string R] 56) = w2 at *
  generalize w1.heap.size = B1 at *
  have c0 := row_cell r0 1
  have p0 := row_cell r1 0
  simp at c0 p0
  clear r0 r1
  have hlen : (lowOf S).size ≤ maxLen := by have := low_size S; unfold maxLen; omega
  have hfd := field38
  have s1 : (S ++ ⟨#[58, 47, 47]⟩ : ByteArray).size ≤ 1048579 := by rw [ByteArray.size_append]; have : (⟨#[58, 47, 47]⟩ : ByteArray).size = 3 := rfl; omega
  have s2 : (S ++ ⟨#[58, 47, 47]⟩ ++ U : ByteArray).size ≤ 2097155 := by rw [ByteArray.size_append]; omega
  have a1 := fun w => run_string_add_sum (P := Tryd.prog) w S ⟨#[58, 47, 47]⟩ (by have : (⟨#[58, 47, 47]⟩ : ByteArray).size = 3 := rfl; omega)
  have a2 := fun w => run_string_add_sum (P := Tryd.prog) w (S ++ ⟨#[58, 47, 47]⟩) U (by omega)
  have a3 := fun w => run_string_add_sum (P := Tryd.prog) w (S ++ ⟨#[58, 47, 47]⟩ ++ U) R (by omega)
  clear s1 s2
  go_region_with (go_at_call 19; refine (low19 S _ hS (unhide HE2)).mono ?_; rintro e w3 ⟨rfl, hb3⟩; obtain ⟨x, y0, y1, y2, y3, y4, y5⟩ := after_low (show Below w2.heap.size w2 w3 from (Below.refl _ _).drew.trans hb3) (unhide R0) (unhide R1) (unhide HD2) hlen (unhide HAT))
  all_goals
    have hb4 := (unhide HB).trans (((Below.refl _ w2).drew.trans hb3).mono (unhide HB).size)
    clear hb3
    cases f
    · go_wp2_with fail
      go_ret3
      exact ⟨rfl, hb4⟩
    · go_wp2_with fail
      go_quiet (fail)
      go_wp2_with fail
      go_ret3
      exact ⟨rfl, below_drewN hb4 _⟩
end Go.Proofs.Qxb6602029aDoor
