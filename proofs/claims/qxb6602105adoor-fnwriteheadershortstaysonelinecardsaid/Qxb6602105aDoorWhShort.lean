/-
  THE WALK of FnWriteHeaderShortStaysOneLine.
-/
import Derived.Test.Qxb6602105aDoorWhSrc
import Derived.Laws.OwnMore
import Derived.Lib.AppendStr
import Derived.Laws.IdiomCopy
namespace Go.Proofs.Qxb6602105aDoor
open Go.RowKit

theorem out_short (pre : List UInt8) (name value : ByteArray) (h : name.size + 2 + value.size ≤ 78) : outL pre name value = pre ++ name.data.toList ++ [58, 32] ++ value.data.toList ++ [13, 10] := by
  unfold outL whL
  rw [emit_short _ _ (by rw [pieces_spl]; simp only [List.length_append, List.length_cons, List.length_nil, ← Lib.size_eq]; omega), pieces_spl]
  simp
theorem own_ge {w : World} {B n : Nat} {v : Value} {xs : List Value} (h : w.ownsRow B 5 1 v n xs) {k : Nat} (hk : v.ownBlock = some k) : B ≤ k := by
  rcases h.2 with ⟨rfl, _⟩ | ⟨g, cap, cur, rfl, hBg, _⟩
  · cases hk
  · cases hk; exact hBg
theorem below_own {w0 w w' : World} {n : Nat} {v : Value} {xs : List Value} (hb : Below w0.heap.size w0 w) (h : w.ownsRow w0.heap.size 5 1 v n xs) (hg : w.grownBy w' v.ownBlock) : Below w0.heap.size w0 w' :=
  hb.grown hg hb.size (fun _ hk => own_ge h hk)
theorem two_new (w : World) (x y : Value) : ∀ j u, [x, y][j]? = some u → (w.alloc (.cells #[x, y] 5)).cell? ((⟨w.heap.size, 0, none⟩ : Addr).add j) = some u := fun j u hu => by
  rw [add_at0, World.cell?_alloc_at _ _ _ _ rfl]
  simpa using hu
theorem two_one (x y : Int) : ∀ u ∈ [Value.int .u8 x, Value.int .u8 y], u.oneCell' = true := fun u hu => by
  simp at hu
  rcases hu with rfl | rfl <;> rfl
theorem at8_src {w : World} {g : Nat} {l : List UInt8} (h : At8 w g l) : ∀ j u, (Lib.byteCells l)[j]? = some u → w.cell? ((⟨g, 0, none⟩ : Addr).add j) = some u := fun j u hu => by
  have hjl : j < l.length := by rw [← Lib.byteCells_length l]; exact (List.getElem?_eq_some_iff.1 hu).1
  rw [add_at0, h j hjl]
  simp [Lib.byteCells, hjl] at hu
  rw [← hu]

set_option maxRecDepth 100000 in
set_option maxHeartbeats 8000000 in
theorem law4 (l : List UInt8) (a : Option Addr) (pc : Nat) (name value : ByteArray) (w : World) (hs : SrcY w a pc l) (hm : Mx w) : Calls Tryd.prog 4 #[.slice a l.length pc, .string name, .string value] w (Ok w) := by
  have HZ := hidW (zb10 l a pc name value w)
  by_cases q0 : l.length ≤ 262144
  case neg =>
    have d0 : (262144 : Int) < (l.length : Int) := by omega
    go_enter Tryd.func4, Tryd.ntmps4
    go_wp2_with fail
    refine (unhidW HZ).mono ?_
    rintro e w1 ⟨b, rfl, hw1⟩
    subst hw1
    cases b <;> (go_wp2_with fail; go_ret; exact ⟨rfl, Below.refl _ _⟩)
  have e0 : decide ((262144 : Int) < (l.length : Int)) = false := decide_eq_false (by omega)
  by_cases q1 : name.size ≤ 262144
  case neg =>
    have d1 : (262144 : Int) < (name.size : Int) := by omega
    go_enter Tryd.func4, Tryd.ntmps4
    go_wp2_with fail
    refine (unhidW HZ).mono ?_
    rintro e w1 ⟨b, rfl, hw1⟩
    subst hw1
    cases b <;> (go_wp2_with fail; go_ret; exact ⟨rfl, Below.refl _ _⟩)
  have e1 : decide ((262144 : Int) < (name.size : Int)) = false := decide_eq_false (by omega)
  by_cases q2 : value.size ≤ 262144
  case neg =>
    have d2 : (262144 : Int) < (value.size : Int) := by omega
    go_enter Tryd.func4, Tryd.ntmps4
    go_wp2_with fail
    refine (unhidW HZ).mono ?_
    rintro e w1 ⟨b, rfl, hw1⟩
    subst hw1
    cases b <;> (go_wp2_with fail; go_ret; exact ⟨rfl, Below.refl _ _⟩)
  have e2 : decide ((262144 : Int) < (value.size : Int)) = false := decide_eq_false (by omega)
  by_cases hfit : name.size + 2 + value.size ≤ 78
  case neg =>
    have d3 : (78 : Int) < (name.size : Int) + 2 + (value.size : Int) := by omega
    go_enter Tryd.func4, Tryd.ntmps4
    go_wp2_with fail
    refine (unhidW HZ).mono ?_
    rintro e w1 ⟨b, rfl, hw1⟩
    subst hw1
    cases b <;> (go_wp2_with fail; go_ret; exact ⟨rfl, Below.refl _ _⟩)
  have e3 : decide ((78 : Int) < (name.size : Int) + 2 + (value.size : Int)) = false := decide_eq_false (by omega)
  have hnil := fun w a l c => run_neq_slice_nil (P := Tryd.prog) w 22 5 a l c Tryd.underlying22
  have hmk := fun w => run_make_row' (P := Tryd.prog) 22 5 (.int .u8 0) 1 Tryd.underlying22 info5 rfl .i64 .i64 l.length (by omega) (by omega) w
  have hsz5 : (Tryd.prog.info? 5).map (·.size) = some 1 := by kernel_rfl
  obtain ⟨j0, hj, hy0, hy1, hy2⟩ := info_parts info5
  have HM := hidW hm
  clear hm
  rcases hs with ⟨rfl, rfl, rfl⟩ | ⟨ad, rfl, hs⟩
  · have HP2 : Hid (PreAt w none []) := hidW (.inl ⟨rfl, rfl⟩)
    have HB2 : Hid (Below w.heap.size w w) := hidW (Below.refl _ _)
    simp only [List.length_nil] at HZ e0 ⊢
    clear hmk e0 q0
    go_enter Tryd.func4, Tryd.ntmps4
    go_wp2_with fail
    refine (unhidW HZ).mono ?_
    rintro e w1 ⟨b, rfl, hw1⟩
    subst hw1
    clear HZ
    cases b
    · go_wp2_with fail
      go_ret
      exact ⟨rfl, Below.refl _ _⟩
    obtain ⟨W, hW⟩ : ∃ W, outL ([] : List UInt8) name value = W := ⟨_, rfl⟩
    have hWv := hW.symm.trans (out_short ([] : List UInt8) name value hfit)
    have H8 := hidW (zz8 (pc := 0) name value (unhidW HP2) ((unhidW HM).below (unhidW HB2)) (by simp) q1 q2)
    rw [hW] at H8
    clear hW
    have hWl : W.length = name.size + value.size + 4 := by rw [hWv]; simp; omega
    have HWv := hidW hWv
    clear hWv
    go_wp2_with fail
    refine (unhidW H8).mono ?_
    rintro e w3 ⟨g3, cap3, rfl, ho3, hb3⟩
    have hat3 := at8_own ho3
    have hg3 := (ho3.lt g3 rfl).2
    clear ho3 H8
    obtain ⟨w4, hr4, ho4, hgr4⟩ := run_make_own (P := Tryd.prog) w3 w3.heap.size 22 5 j0 (.int .u8 0) 1 Tryd.underlying22 hj hy0 hy1 .i64 .i64 (name.size + value.size + 4) (by rw [hy2]; omega) (by unfold maxLen; omega) (Nat.le_refl _)
    have hb4 : Below w3.heap.size w3 w4 := (Below.refl _ _).grown hgr4 (Nat.le_refl _) (fun k hk => by cases hk)
    have hnum : ((name.size + value.size + 4 : Nat) : Int) = (name.size : Int) + value.size + 4 := by omega
    rw [hnum] at hr4
    clear hnum hgr4
    have HO4 := hidW ho4
    have HB4 := hidW hb4
    have HWl := hidW hWl
    have HB3 := hidW hb3
    have HAt3 := hidW hat3
    clear ho4 hb4 hb3 hat3 hWl
    go_wp2_with (first | (at_builtin; refine Lib.wpList_append_own_string _ rfl _ _ 22 9 rfl w3.heap.size 5 j0 Tryd.underlying22 Tryd.underlying9 hj hy0 hy1 hy2 _ _ _ rfl (unhidW HO4) name rfl (by unfold maxLen; omega) (by omega) (unhidW HB4).size ?_; intro v6 w6 ho6 hg6 _; have HO6 := hidW ho6; have HB6 := hidW (below_own (unhidW HB4) (unhidW HO4) hg6); clear ho6 hg6) | (at_builtin; refine wpList_append_own _ rfl _ _ 22 rfl w3.heap.size 5 j0 (.int .u8 0) 1 1 Tryd.underlying22 hj hy0 hy1 hy2 rfl (by decide) _ _ _ rfl ((unhidW HO6).alloc _) ⟨w6.heap.size, 0, none⟩ 2 2 [.int .u8 58, .int .u8 32] rfl rfl (two_new _ _ _) (two_one _ _) (by unfold maxLen; omega) (by omega) ((unhidW HB6).alloc (unhidW HB6).size _).size ?_; intro v7 w7 ho7 hg7 _; have HO7 := hidW ho7; have HB7 := hidW (below_own ((unhidW HB6).alloc (unhidW HB6).size _) ((unhidW HO6).alloc _) hg7); clear ho7 hg7) | (at_builtin; refine Lib.wpList_append_own_string _ rfl _ _ 22 9 rfl w3.heap.size 5 j0 Tryd.underlying22 Tryd.underlying9 hj hy0 hy1 hy2 _ _ _ rfl (unhidW HO7) value rfl (by unfold maxLen; omega) (by omega) (unhidW HB7).size ?_; intro v8 w8 ho8 hg8 _; have HO8 := hidW ho8; have HB8 := hidW (below_own (unhidW HB7) (unhidW HO7) hg8); clear ho8 hg8) | (at_builtin; refine wpList_append_own _ rfl _ _ 22 rfl w3.heap.size 5 j0 (.int .u8 0) 1 1 Tryd.underlying22 hj hy0 hy1 hy2 rfl (by decide) _ _ _ rfl ((unhidW HO8).alloc _) ⟨w8.heap.size, 0, none⟩ 2 2 [.int .u8 13, .int .u8 10] rfl rfl (two_new _ _ _) (two_one _ _) (by unfold maxLen; omega) (by omega) ((unhidW HB8).alloc (unhidW HB8).size _).size ?_; intro v9 w9 ho9 hg9 _; have HO9 := hidW ho9; have HB9 := hidW (below_own ((unhidW HB8).alloc (unhidW HB8).size _) ((unhidW HO8).alloc _) hg9); clear ho9 hg9))
    have ho9 := unhidW HO9
    have hb9 := unhidW HB9
    have hWl := unhidW HWl
    have hcells : [] ++ Lib.strCells name ++ [.int .u8 58, .int .u8 32] ++ Lib.strCells value ++ [.int .u8 13, .int .u8 10] = Lib.byteCells W := by
      rw [unhidW HWv]
      simp [Lib.byteCells, Lib.strCells]
    rw [hcells] at ho9
    have hlen9 : 0 + name.size + 2 + value.size + 2 = W.length := by omega
    rw [hlen9] at ho9
    obtain ⟨g9, cap9, hv9⟩ : ∃ g9 cap9, v9 = .slice (some ⟨g9, 0, none⟩) W.length cap9 := by
      rcases ho9.2 with ⟨_, h0⟩ | ⟨g, cap, _, h1, _⟩
      · omega
      · exact ⟨g, cap, h1⟩
    subst hv9
    have hat9 := at8_own ho9
    have hg9 := (ho9.lt g9 rfl).2
    have H11 := hidW (same11 W g3 g9 cap3 cap9 w9 (by omega) ((unhidW HAt3).below hb9 hg3) hat9 (Nat.lt_of_lt_of_le hg3 hb9.size) hg9)
    have HB9' := hidW (((unhidW HB2).trans ((unhidW HB3).mono (unhidW HB2).size)).trans (hb9.mono (Nat.le_trans (unhidW HB2).size (unhidW HB3).size)))
    refine (unhidW H11).mono ?_
    rintro e w10 ⟨rfl, hb10⟩
    have HB10 := hidW ((unhidW HB9').trans (hb10.mono (unhidW HB9').size))
    clear hb10 ho9 hb9 hat9 hg9 hcells hlen9 hWl
    go_wp2_with fail
    go_ret
    exact ⟨rfl, unhidW HB10⟩
  · have HS := hidW hs
    clear hs
    go_enter Tryd.func4, Tryd.ntmps4
    go_wp2_with fail
    refine (unhidW HZ).mono ?_
    rintro e w1 ⟨b, rfl, hw1⟩
    subst hw1
    clear HZ
    cases b
    · go_wp2_with fail
      go_ret
      exact ⟨rfl, Below.refl _ _⟩
    have hr0 : (w1.alloc (.cells (madeCells #[.int .u8 0] l.length) 5)).heap[w1.heap.size]? = some (.cells (List.replicate l.length (Value.int .u8 0)).toArray 5 (0, 0)) := by
      rw [← toList_madeCells_one, Array.toArray_toList]
      show (w1.heap.push _)[w1.heap.size]? = _
      simp
    have hb0 : Below w1.heap.size w1 (w1.alloc (.cells (madeCells #[.int .u8 0] l.length) 5)) := (Below.refl _ _).alloc (Nat.le_refl _) _
    obtain ⟨cs, hcs⟩ : ∃ cs, cs = Lib.byteCells l := ⟨_, rfl⟩
    have hcl : cs.length = l.length := by rw [hcs, Lib.byteCells_length]
    have hc0 : ∀ j v, cs[j]? = some v → (w1.alloc (.cells (madeCells #[.int .u8 0] l.length) 5)).cell? (ad.add j) = some v := fun j v hv => by
      have hjl : j < l.length := by rw [← hcl]; exact (List.getElem?_eq_some_iff.1 hv).1
      obtain ⟨b, o, rfl, hbl, hcell⟩ := unhidW HS (by omega)
      have e1 : v = .int .u8 (l[j].toNat : Int) := by
        rw [hcs] at hv
        simp [Lib.byteCells, hjl] at hv
        exact hv.symm
      rw [add_atW, e1]
      exact (hb0.cell (p := ⟨b, o + j, none⟩) hbl).trans (hcell j hjl)
    have hcp := run_copy_row (P := Tryd.prog) (w1.alloc (.cells (madeCells #[.int .u8 0] l.length) 5)) 22 22 3 5 w1.heap.size 0 l.length l.length ad l.length pc (List.replicate l.length (Value.int .u8 0)).toArray 5 cs Tryd.underlying22 hsz5 hr0 (by rw [hcl]; exact (Nat.min_self _).symm) hc0 (by rw [hcl]; simp) (by rw [hcs]; exact one_bytes l)
    have e2 : (((List.replicate l.length (Value.int .u8 0)).toArray.toList.take 0 ++ cs ++ (List.replicate l.length (Value.int .u8 0)).toArray.toList.drop (0 + cs.length)).toArray : Array Value) = cs.toArray := by
      rw [hcl]
      simp
    rw [e2, hcl] at hcp
    have hb2 := below_setRow hb0 (Nat.le_refl _) cs.toArray
    have hr2 := setRow_heap _ w1.heap.size _ cs.toArray 5 _ hr0
    generalize (w1.alloc (.cells (madeCells #[.int .u8 0] l.length) 5)).setRow w1.heap.size cs.toArray = w2 at *
    have hc2 : At8 w2 w1.heap.size l := fun j hj => by
      rw [hcs] at hr2
      simp [World.cell?, hr2, Lib.byteCells, hj]
    have hs2 : w1.heap.size < w2.heap.size := by
      rcases Nat.lt_or_ge w1.heap.size w2.heap.size with h' | h'
      · exact h'
      · rw [Array.getElem?_eq_none h'] at hr2
        cases hr2
    have hp2 : PreAt w2 (some ⟨w1.heap.size, 0, none⟩) l := .inr ⟨_, rfl, hs2, hc2⟩
    have HP2 := hidW hp2
    have HB2 := hidW hb2
    have HC2 := hidW hc2
    clear hr0 hb0 hcs hcl hc0 e2 hb2 hr2 hc2 hp2 HS
    go_wp2_with fail
    clear hcp cs
    obtain ⟨W, hW⟩ : ∃ W, outL l name value = W := ⟨_, rfl⟩
    have hWv := hW.symm.trans (out_short l name value hfit)
    have H8 := hidW (zz8 (pc := l.length) name value (unhidW HP2) ((unhidW HM).below (unhidW HB2)) q0 q1 q2)
    rw [hW] at H8
    clear hW
    have hWl : W.length = l.length + name.size + value.size + 4 := by rw [hWv]; simp; omega
    have HWv := hidW hWv
    clear hWv
    refine (unhidW H8).mono ?_
    rintro e w3 ⟨g3, cap3, rfl, ho3, hb3⟩
    have hat3 := at8_own ho3
    have hg3 := (ho3.lt g3 rfl).2
    clear ho3 H8
    obtain ⟨w4, hr4, ho4, hgr4⟩ := run_make_own (P := Tryd.prog) w3 w3.heap.size 22 5 j0 (.int .u8 0) 1 Tryd.underlying22 hj hy0 hy1 .i64 .i64 (l.length + name.size + value.size + 4) (by rw [hy2]; omega) (by unfold maxLen; omega) (Nat.le_refl _)
    have hb4 : Below w3.heap.size w3 w4 := (Below.refl _ _).grown hgr4 (Nat.le_refl _) (fun k hk => by cases hk)
    have hnum : ((l.length + name.size + value.size + 4 : Nat) : Int) = (l.length : Int) + name.size + value.size + 4 := by omega
    rw [hnum] at hr4
    clear hnum hgr4
    have hp4 : At8 w4 w1.heap.size l := ((unhidW HC2).below hb3 hs2).below hb4 (Nat.lt_of_lt_of_le hs2 hb3.size)
    have HP4 := hidW hp4
    clear hp4
    have HO4 := hidW ho4
    have HB4 := hidW hb4
    have HWl := hidW hWl
    have HB3 := hidW hb3
    have HAt3 := hidW hat3
    clear ho4 hb4 hb3 hat3 hWl
    go_wp2_with (first | (at_builtin; refine wpList_append_own _ rfl _ _ 22 rfl w3.heap.size 5 j0 (.int .u8 0) 1 1 Tryd.underlying22 hj hy0 hy1 hy2 rfl (by decide) _ _ _ rfl (unhidW HO4) ⟨w1.heap.size, 0, none⟩ l.length l.length (Lib.byteCells l) rfl (by rw [Lib.byteCells_length]; omega) (at8_src (unhidW HP4)) (one_bytes l) (by unfold maxLen; omega) (by omega) (unhidW HB4).size ?_; intro v5 w5 ho5 hg5 _; have HO5 := hidW ho5; have HB5 := hidW (below_own (unhidW HB4) (unhidW HO4) hg5); clear ho5 hg5) | (at_builtin; refine Lib.wpList_append_own_string _ rfl _ _ 22 9 rfl w3.heap.size 5 j0 Tryd.underlying22 Tryd.underlying9 hj hy0 hy1 hy2 _ _ _ rfl (unhidW HO5) name rfl (by unfold maxLen; omega) (by omega) (unhidW HB5).size ?_; intro v6 w6 ho6 hg6 _; have HO6 := hidW ho6; have HB6 := hidW (below_own (unhidW HB5) (unhidW HO5) hg6); clear ho6 hg6) | (at_builtin; refine wpList_append_own _ rfl _ _ 22 rfl w3.heap.size 5 j0 (.int .u8 0) 1 1 Tryd.underlying22 hj hy0 hy1 hy2 rfl (by decide) _ _ _ rfl ((unhidW HO6).alloc _) ⟨w6.heap.size, 0, none⟩ 2 2 [.int .u8 58, .int .u8 32] rfl rfl (two_new _ _ _) (two_one _ _) (by unfold maxLen; omega) (by omega) ((unhidW HB6).alloc (unhidW HB6).size _).size ?_; intro v7 w7 ho7 hg7 _; have HO7 := hidW ho7; have HB7 := hidW (below_own ((unhidW HB6).alloc (unhidW HB6).size _) ((unhidW HO6).alloc _) hg7); clear ho7 hg7) | (at_builtin; refine Lib.wpList_append_own_string _ rfl _ _ 22 9 rfl w3.heap.size 5 j0 Tryd.underlying22 Tryd.underlying9 hj hy0 hy1 hy2 _ _ _ rfl (unhidW HO7) value rfl (by unfold maxLen; omega) (by omega) (unhidW HB7).size ?_; intro v8 w8 ho8 hg8 _; have HO8 := hidW ho8; have HB8 := hidW (below_own (unhidW HB7) (unhidW HO7) hg8); clear ho8 hg8) | (at_builtin; refine wpList_append_own _ rfl _ _ 22 rfl w3.heap.size 5 j0 (.int .u8 0) 1 1 Tryd.underlying22 hj hy0 hy1 hy2 rfl (by decide) _ _ _ rfl ((unhidW HO8).alloc _) ⟨w8.heap.size, 0, none⟩ 2 2 [.int .u8 13, .int .u8 10] rfl rfl (two_new _ _ _) (two_one _ _) (by unfold maxLen; omega) (by omega) ((unhidW HB8).alloc (unhidW HB8).size _).size ?_; intro v9 w9 ho9 hg9 _; have HO9 := hidW ho9; have HB9 := hidW (below_own ((unhidW HB8).alloc (unhidW HB8).size _) ((unhidW HO8).alloc _) hg9); clear ho9 hg9))
    have ho9 := unhidW HO9
    have hb9 := unhidW HB9
    have hWl := unhidW HWl
    have hcells : [] ++ Lib.byteCells l ++ Lib.strCells name ++ [.int .u8 58, .int .u8 32] ++ Lib.strCells value ++ [.int .u8 13, .int .u8 10] = Lib.byteCells W := by
      rw [unhidW HWv]
      simp [Lib.byteCells, Lib.strCells]
    rw [hcells] at ho9
    have hlen9 : 0 + l.length + name.size + 2 + value.size + 2 = W.length := by omega
    rw [hlen9] at ho9
    obtain ⟨g9, cap9, hv9⟩ : ∃ g9 cap9, v9 = .slice (some ⟨g9, 0, none⟩) W.length cap9 := by
      rcases ho9.2 with ⟨_, h0⟩ | ⟨g, cap, _, h1, _⟩
      · omega
      · exact ⟨g, cap, h1⟩
    subst hv9
    have hat9 := at8_own ho9
    have hg9 := (ho9.lt g9 rfl).2
    have H11 := hidW (same11 W g3 g9 cap3 cap9 w9 (by omega) ((unhidW HAt3).below hb9 hg3) hat9 (Nat.lt_of_lt_of_le hg3 hb9.size) hg9)
    have HB9' := hidW (((unhidW HB2).trans ((unhidW HB3).mono (unhidW HB2).size)).trans (hb9.mono (Nat.le_trans (unhidW HB2).size (unhidW HB3).size)))
    refine (unhidW H11).mono ?_
    rintro e w10 ⟨rfl, hb10⟩
    have HB10 := hidW ((unhidW HB9').trans (hb10.mono (unhidW HB9').size))
    clear hb10 ho9 hb9 hat9 hg9 hcells hlen9 hWl
    go_wp2_with fail
    go_ret
    exact ⟨rfl, unhidW HB10⟩
end Go.Proofs.Qxb6602105aDoor
