/-
  THE WALK of FnSplitBagItRoundTrip, at a list that is not empty: the checks ahead, then the joining, then splitBagIt and sameLines.
-/
import Derived.Test.Qxb6602032aDoorTripA
import Derived.Laws.CopyOwn
import Derived.Laws.IdiomStrings
namespace Go.Proofs.Qxb6602032aDoor
open Go.RowKit Bag

/-! ### plain -/
def FreeTo (l : ByteArray) (j : Nat) : Prop := Free (l.data.toList.take j)
theorem free_start (l : ByteArray) : FreeTo l 0 := by simp [FreeTo, Free]
theorem take_next (l : ByteArray) (j : Nat) (h : j < l.size) : l.data.toList.take (j + 1) = l.data.toList.take j ++ [l[j]] := by
  have hl : j < l.data.toList.length := by rw [← Lib.size_eq]; exact h
  rw [List.take_succ_eq_append_getElem hl]
  rfl
theorem free_next {l : ByteArray} {j : Nat} (h : FreeTo l j) (hj : j < l.size) (h1 : ((l[j].toNat : Int) == 10) = false) (h2 : ((l[j].toNat : Int) == 13) = false) : FreeTo l (j + 1) := by
  unfold FreeTo Free at *
  rw [take_next l j hj]
  intro b hb
  rcases List.mem_append.1 hb with hb | hb
  · exact h b hb
  · have : b = l[j] := by simpa using hb
    rw [this]
    exact ⟨byte_ne (n := 10) (by omega) h1, byte_ne (n := 13) (by omega) h2⟩
theorem free_end {l : ByteArray} (h : FreeTo l l.size) : Free l.data.toList := by
  unfold FreeTo at h
  rwa [List.take_of_length_le (by rw [← Lib.size_eq]; exact Nat.le_refl _)] at h

/-! ### an owned row of bytes -/
def cellsB (l : List UInt8) : List Value := l.map fun b => Value.int .u8 (b.toNat : Int)
abbrev OwnB (w : World) (base g cap : Nat) (l : List UInt8) : Prop := w.ownsRow base 5 1 (.slice (some ⟨g, 0, none⟩) l.length cap) l.length (cellsB l)
theorem info5 : (Tryd.prog.info? 5).map (fun i => (i.zero, i.size, i.bytes)) = some (some (.int .u8 0), 1, 1) := by kernel_rfl
theorem app_byte {w0 wr w3 : World} {gb cap : Nat} {l : List UInt8} {x : UInt8} {v' : Value} (hb : Below w0.heap.size w0 wr) (hown : OwnB wr w0.heap.size gb cap l)
    (hown' : w3.ownsRow w0.heap.size 5 1 v' (l.length + 1) (cellsB l ++ [.int .u8 (x.toNat : Int)]))
    (hg : (wr.alloc (.cells #[.int .u8 (x.toNat : Int)] 5)).grownBy w3 (Value.ownBlock (.slice (some ⟨gb, 0, none⟩) l.length cap))) (hnil : v' = .slice none 0 0 ↔ (Value.slice (some ⟨gb, 0, none⟩) l.length cap = .slice none 0 0 ∧ 1 = 0)) :
    ∃ g' cap', v' = .slice (some ⟨g', 0, none⟩) (l.length + 1) cap' ∧ OwnB w3 w0.heap.size g' cap' (l ++ [x]) ∧ Below w0.heap.size w0 w3 := by
  rcases hown'.2 with ⟨h1, _⟩ | ⟨g', cap', _, h1, _⟩
  · exact absurd h1 (fun e => by have := hnil.1 e; omega)
  subst h1
  refine ⟨g', cap', rfl, by simpa [OwnB, cellsB] using hown', ?_⟩
  have h1 : Below w0.heap.size w0 (wr.alloc (.cells #[.int .u8 (x.toNat : Int)] 5)) := hb.alloc hb.size _
  refine h1.grown hg (by have := h1.size; exact this) (fun k hk => ?_)
  cases hk
  exact (hown.lt gb rfl).1
theorem own_bytes {w : World} {base g cap : Nat} {l : List UInt8} (h : OwnB w base g cap l) (j : Nat) (hj : j < l.length) : w.cell? ((⟨g, 0, none⟩ : Addr).add j) = some (.int .u8 (l[j].toNat : Int)) := by
  have := h.cells (g := g) rfl j (.int .u8 (l[j].toNat : Int)) (by simp [cellsB, hj])
  exact this

theorem add_at (b o j : Nat) : (⟨b, o, none⟩ : Addr).add j = ⟨b, o + j, none⟩ := by
  by_cases e : j = 0
  · subst e; simp [Addr.add]
  · simp [Addr.add, e]
theorem lenTo_mono (ls : List ByteArray) : ∀ j k, lenTo ls j ≤ lenTo ls (j + k)
  | j, 0 => Nat.le_refl _
  | j, k + 1 => Nat.le_trans (lenTo_mono ls j k) (by show lenTo ls (j + k) ≤ lenTo ls (j + k) + (ls.getD (j + k) ByteArray.empty).size; omega)
theorem lenTo_ge (ls : List ByteArray) (k : Nat) (hk : k < ls.length) : (ls.getD k ByteArray.empty).size ≤ lenTo ls ls.length := by
  have h1 : lenTo ls (k + 1) = lenTo ls k + (ls.getD k ByteArray.empty).size := rfl
  have h3 := lenTo_mono ls (k + 1) (ls.length - (k + 1))
  rw [show k + 1 + (ls.length - (k + 1)) = ls.length by omega] at h3
  omega

set_option maxRecDepth 100000 in
set_option maxHeartbeats 8000000 in
theorem law4_some (ls : List ByteArray) (b o kc : Nat) (k : Int) (f : Bool) (w : World) (hb : b < w.heap.size) (hne : 0 < ls.length) (hm : Mx w)
    (hsrc : ∀ i, i < ls.length → w.cell? ⟨b, o + i, none⟩ = some (.string (ls.getD i ByteArray.empty))) :
    Calls Tryd.prog 4 #[.slice (some ⟨b, o, none⟩) ls.length kc, .int .u8 k, .bool f] w fun e w' => e = .returned (.bool true) ∧ Below w.heap.size w w' := by
  have H9 := hide (zb9 ls (some ⟨b, o, none⟩) kc k f w (.inr ⟨b, o, rfl, hb, hsrc⟩))
  have HS := hide hsrc
  have HM := hide hm
  have hnn : ((ls.length : Int) == 0) = false := beq_eq_false_iff_ne.2 (by omega)
  have hnil := fun w a l c => run_neq_slice_nil (P := Tryd.prog) w 24 9 a l c Tryd.underlying24
  have hmk := fun w (h : ls.length ≤ 1048576) => run_make_row' (P := Tryd.prog) 24 9 (.string ⟨#[]⟩) 16 Tryd.underlying24 info9 rfl .i64 .i64 ls.length (by omega) (by omega) w
  have hsz9 : (Tryd.prog.info? 9).map (·.size) = some 1 := by kernel_rfl
  obtain ⟨j0, hj, hy0, hy1, hy2⟩ := info_parts info5
  clear hsrc hm
  go_enter Tryd.func4, Tryd.ntmps4
  go_wp2_with fail
  refine (unhide H9).mono ?_
  rintro e w1 ⟨gd, rfl, rfl, hgd⟩
  clear H9
  cases gd
  · go_wp2_with fail
    go_ret
    exact ⟨rfl, Below.refl _ _⟩
  have hl20 := hgd rfl
  clear hgd
  replace hmk := fun w => hmk w hl20
  by_cases hbig : ls.length ≤ 65536
  case neg =>
    have hbig' : (65536 : Int) < ls.length := by omega
    go_wp2_with fail
    go_ret
    exact ⟨rfl, Below.refl _ _⟩
  have hbd : decide ((65536 : Int) < ls.length) = false := decide_eq_false (by omega)
  go_wp2_with fail
  go_loop [7, 8] (fun z i => ∃ k : Nat, k ≤ ls.length ∧ i = .int .i64 k ∧ z = .int .i64 (16 * ls.length + lenTo ls k) ∧ 16 * ls.length + lenTo ls k ≤ 1048576) (fun _ i => (ls.length : Int).toNat - (intOf i).toNat)
  case atStart => exact ⟨0, Nat.zero_le _, rfl, by simp only [lenTo]; go_num, by simp only [lenTo]; omega⟩
  case round =>
    obtain ⟨k1, hk1, rfl, rfl, ht⟩ := hrel
    by_cases hlt : k1 < ls.length
    · have ck := unhide HS k1 hlt
      have hL : lenTo ls (k1 + 1) = lenTo ls k1 + (ls.getD k1 ByteArray.empty).size := rfl
      have HL := hide hL
      clear hL
      generalize ls.getD k1 ByteArray.empty = key at *
      generalize lenTo ls k1 = t at *
      by_cases q1 : key.size ≤ 1048576
      · by_cases q2 : 16 * ls.length + t + key.size ≤ 1048576
        · go_wp2_with fail
          go_round
          case rel => exact ⟨k1 + 1, by omega, by go_num, by rw [unhide HL]; go_num, by rw [unhide HL]; omega⟩
          case measure => simp [intOf]; omega
        · have q2' : (1048576 : Int) < 16 * ls.length + t + key.size := by omega
          go_wp2_with fail
          go_ret
          exact ⟨rfl, Below.refl _ _⟩
      · have q1' : (1048576 : Int) < key.size := by omega
        go_wp2_with fail
        go_ret
        exact ⟨rfl, Below.refl _ _⟩
    · obtain rfl : k1 = ls.length := by omega
      clear hlt hk1
      generalize hTot : lenTo ls ls.length = tot at *
      have HTot := hide hTot
      clear hTot
      go_wp2_with fail
      go_loop [9] (fun i => ∃ k : Nat, k ≤ ls.length ∧ i = .int .i64 k ∧ ∀ j, j < k → Free (ls.getD j ByteArray.empty).data.toList) (fun i => (ls.length : Int).toNat - (intOf i).toNat)
      case atStart => exact ⟨0, Nat.zero_le _, rfl, fun j hj => by omega⟩
      case round =>
        obtain ⟨k2, hk2, rfl, hfree⟩ := hrel
        have HF := hide hfree
        clear hfree
        by_cases hlt : k2 < ls.length
        · have ck := unhide HS k2 hlt
          have HE : Hid (∃ x, ls.getD k2 ByteArray.empty = x) := hide ⟨_, rfl⟩
          obtain ⟨key, hkey⟩ := unhide HE
          rw [hkey] at ck
          have HK := hide hkey
          clear hkey HE
          have hks : key.size ≤ 1048576 := by
            have := lenTo_ge ls k2 hlt
            rw [unhide HK, unhide HTot] at this
            omega
          go_wp2_with fail
          go_loop [11] (fun i => ∃ j : Nat, j ≤ key.size ∧ i = .int .i64 j ∧ FreeTo key j) (fun i => (key.size : Int).toNat - (intOf i).toNat)
          case atStart => exact ⟨0, Nat.zero_le _, rfl, free_start _⟩
          case round =>
            obtain ⟨j, hj, rfl, hft⟩ := hrel
            have HFT := hide hft
            clear hft
            by_cases hjl : j < key.size
            · cases h13 : ((key[j].toNat : Int) == 13)
              · cases h10 : ((key[j].toNat : Int) == 10)
                · go_wp2_with fail
                  go_round
                  case rel => exact ⟨j + 1, by omega, by go_num, free_next (unhide HFT) hjl h10 h13⟩
                  case measure => simp [intOf]; omega
                · go_wp2_with fail
                  go_ret
                  exact ⟨rfl, Below.refl _ _⟩
              · go_wp2_with fail
                go_ret
                exact ⟨rfl, Below.refl _ _⟩
            · obtain rfl : j = key.size := by omega
              clear hjl hj
              go_wp2_with fail
              go_round
              case rel =>
                refine ⟨k2 + 1, by omega, by go_num, fun j hj => ?_⟩
                by_cases e : j = k2
                · subst e
                  rw [unhide HK]
                  exact free_end (unhide HFT)
                · exact unhide HF j (by omega)
              case measure => simp [intOf]; omega
        · obtain rfl : k2 = ls.length := by omega
          clear hlt hk2
          by_cases hx : f = false ∧ 1 < ls.length ∧ (ls.getD (ls.length - 1) ByteArray.empty).size = 0
          · obtain ⟨rfl, h1, h2⟩ := hx
            have ck := unhide HS (ls.length - 1) (by omega)
            generalize ls.getD (ls.length - 1) ByteArray.empty = key at *
            have h1' : (1 : Int) < ls.length := by omega
            have h2' : ((key.size : Int) == 0) = true := by rw [h2]; rfl
            have hsub : (ls.length : Int) - 1 = ((ls.length - 1 : Nat) : Int) := by omega
            clear h2
            go_wp2_with fail
            go_ret
            exact ⟨rfl, Below.refl _ _⟩
          have HLast : Hid (f = false → 1 < ls.length → (ls.getD (ls.length - 1) ByteArray.empty).size ≠ 0) := hide fun h1 h2 h3 => hx ⟨h1, h2, h3⟩
          clear hx
          cases f
          · by_cases h1 : 1 < ls.length
            · have h1' : (1 : Int) < ls.length := by omega
              have hk := unhide HLast rfl h1
              have ck := unhide HS (ls.length - 1) (by omega)
              generalize ls.getD (ls.length - 1) ByteArray.empty = kel at ck hk
              have h2' : ((kel.size : Int) == 0) = false := beq_eq_false_iff_ne.2 (by omega)
              have hsub : (ls.length : Int) - 1 = ((ls.length - 1 : Nat) : Int) := by omega
              clear hk
              have hr0 : (w1.alloc (.cells (madeCells #[.string ⟨#[]⟩] ls.length) 9)).heap[w1.heap.size]? = some (.cells (List.replicate ls.length (Value.string ⟨#[]⟩)).toArray 9 (0, 0)) := by
                rw [← toList_madeCells_one, Array.toArray_toList]
                show (w1.heap.push _)[w1.heap.size]? = _
                simp
              have hb0 : Below w1.heap.size w1 (w1.alloc (.cells (madeCells #[.string ⟨#[]⟩] ls.length) 9)) := (Below.refl _ _).alloc (Nat.le_refl _) _
              have HR0 := hide hr0
              have HB0 := hide hb0
              clear hr0 hb0
              have HCS : Hid (∃ cs, cs = ls.map Value.string) := hide ⟨_, rfl⟩
              obtain ⟨cs, hcs⟩ := unhide HCS
              have hcl : cs.length = ls.length := by rw [hcs]; simp
              have hc0 : ∀ j v, cs[j]? = some v → (w1.alloc (.cells (madeCells #[.string ⟨#[]⟩] ls.length) 9)).cell? ((⟨b, o, none⟩ : Addr).add j) = some v := fun j v hv => by
                have hjl : j < ls.length := by rw [← hcl]; exact (List.getElem?_eq_some_iff.1 hv).1
                have e1 : v = .string (ls.getD j ByteArray.empty) := by
                  rw [hcs, List.getElem?_map, List.getElem?_eq_getElem hjl] at hv
                  simp at hv
                  simp [hjl, hv]
                rw [add_at, e1]
                exact ((unhide HB0).cell (p := ⟨b, o + j, none⟩) hb).trans (unhide HS j hjl)
              have h1c : ∀ v ∈ cs, v.oneCell' = true := fun v hv => by
                rw [hcs] at hv
                obtain ⟨x, _, rfl⟩ := List.mem_map.1 hv
                rfl
              have HC0 := hide hc0
              have H1C := hide h1c
              have HCSE := hide hcs
              clear hc0 h1c hcs HCS
              have hcp := run_copy_row (P := Tryd.prog) (w1.alloc (.cells (madeCells #[.string ⟨#[]⟩] ls.length) 9)) 24 24 3 9 w1.heap.size 0 ls.length ls.length ⟨b, o, none⟩ ls.length kc (List.replicate ls.length (Value.string ⟨#[]⟩)).toArray 9 cs Tryd.underlying24 hsz9 (unhide HR0) (by rw [hcl]; exact (Nat.min_self _).symm) (unhide HC0) (by rw [hcl]; simp) (unhide H1C)
              have e2 : (((List.replicate ls.length (Value.string ⟨#[]⟩)).toArray.toList.take 0 ++ cs ++ (List.replicate ls.length (Value.string ⟨#[]⟩)).toArray.toList.drop (0 + cs.length)).toArray : Array Value) = cs.toArray := by
                rw [hcl]
                simp
              rw [e2] at hcp
              have hb2 := below_setRow (unhide HB0) (Nat.le_refl _) cs.toArray
              have hr2 := setRow_heap _ w1.heap.size _ cs.toArray 9 _ (unhide HR0)
              generalize (w1.alloc (.cells (madeCells #[.string ⟨#[]⟩] ls.length) 9)).setRow w1.heap.size cs.toArray = w2 at *
              have HB2 := hide hb2
              have hc2 : ∀ i, i < ls.length → w2.cell? ⟨w1.heap.size, i, none⟩ = some (.string (ls.getD i ByteArray.empty)) := fun i hi => by
                have hr := hr2
                rw [unhide HCSE] at hr
                simp [World.cell?, hr, hi]
              have hs2 : w1.heap.size < w2.heap.size := by
                have hr := hr2
                rcases Nat.lt_or_ge w1.heap.size w2.heap.size with h' | h'
                · exact h'
                · rw [Array.getElem?_eq_none h'] at hr
                  cases hr
              clear e2
              have HC2 := hide hc2
              clear hb2 hc2 hr2 HB0 HR0 HC0 H1C HCSE
              go_wp2_with fail
              clear hcp hcl
              refine (term10 k w2).mono ?_
              rintro e w3 ⟨rfl, hw3⟩
              have hw3' := hw3.symm
              subst hw3'
              have HT := hide (term_is k)
              have hT2 := (term_is k).2
              generalize termB k = T at *
              have hnum : (16 : Int) * ls.length + tot + 2 * ls.length + 2 = ((16 * ls.length + tot + 2 * ls.length + 2 : Nat) : Int) := by omega
              obtain ⟨w3, hrun3, hown3, hgr3⟩ := run_make_own (P := Tryd.prog) w2 w2.heap.size 28 5 j0 (.int .u8 0) 1 Tryd.underlying28 hj hy0 hy1 .i64 .i64 (16 * ls.length + tot + 2 * ls.length + 2) (by rw [hy2]; omega) (by unfold maxLen; omega) (Nat.le_refl _)
              rw [← hnum] at hrun3
              have hb3 : Below w2.heap.size w2 w3 := (Below.refl _ _).grown hgr3 (Nat.le_refl _) (fun k hk => by cases hk)
              have HO3 := hide hown3
              have HB3 := hide hb3
              clear hown3 hb3 hgr3 hnum
              go_wp2_with fail
              clear hrun3
              go_loopg [14, 15] ls.length (fun g v i wx => ∃ (k4 gb cap : Nat) (l : List UInt8), k4 + g = ls.length ∧ i = .int .i64 k4 ∧ v = .slice (some ⟨gb, 0, none⟩) l.length cap ∧ Hid (J T.data.toList (datas (ls.take k4)) = l) ∧ OwnB wx w2.heap.size gb cap l ∧ Below w2.heap.size w2 wx)
              case atStart => exact ⟨0, _, _, [], by omega, rfl, rfl, hide (by simp [datas, J]), unhide HO3, unhide HB3⟩
              case round =>
                clear HO3 HB3
                obtain ⟨k4, gb, cap, l, hkg, rfl, rfl, hlt, hownm, hbm⟩ := hrel
                have HBm := hide hbm
                clear hbm
                have hll : l.length ≤ tot + 2 * ls.length := by
                  have h1 := J_len T.data.toList (by rw [← Lib.size_eq]; exact hT2) ls k4 (by omega)
                  rw [unhide hlt] at h1
                  have h2 := lenTo_mono ls k4 (ls.length - k4)
                  rw [show k4 + (ls.length - k4) = ls.length by omega, unhide HTot] at h2
                  omega
                by_cases hlt4 : k4 < ls.length
                · have ck := ((unhide HBm).cell (p := ⟨w1.heap.size, k4, none⟩) hs2).trans (unhide HC2 k4 hlt4)
                  have HE : Hid (∃ x, ls.getD k4 ByteArray.empty = x) := hide ⟨_, rfl⟩
                  obtain ⟨key, hkey⟩ := unhide HE
                  rw [hkey] at ck
                  have HK4 := hide hkey
                  clear hkey HE
                  have hks : key.size ≤ 1048576 := by
                    have := lenTo_ge ls k4 hlt4
                    rw [unhide HK4, unhide HTot] at this
                    omega
                  by_cases hk0 : 0 < k4
                  · have hk0' : (0 : Int) < (k4 : Int) := by omega
                    go_wp2_with fail
                    go_loopg [14, 16] T.size (fun g v i wx => ∃ (j gb cap : Nat) (mm : List UInt8), j + g = T.size ∧ i = .int .i64 j ∧ v = .slice (some ⟨gb, 0, none⟩) mm.length cap ∧ mm.length = l.length + j ∧ Hid (mm = l ++ T.data.toList.take j) ∧ OwnB wx w2.heap.size gb cap mm ∧ Below w2.heap.size w2 wx)
                    case atStart => exact ⟨0, _, _, l, by omega, rfl, rfl, rfl, hide (by simp), hownm, unhide HBm⟩
                    case round =>
                      clear hownm HBm
                      obtain ⟨j, gb, cap, mm, hjg, rfl, rfl, hml, hmt, hownm, hbm⟩ := hrel
                      have HBm := hide hbm
                      clear hbm
                      by_cases hjl : j < T.size
                      · go_wp2_with (first | (at_builtin; refine wpList_append_own _ rfl _ _ 28 rfl w2.heap.size 5 j0 (.int .u8 0) 1 1 Tryd.underlying28 hj hy0 hy1 hy2 rfl (by decide) _ _ _ rfl (hownm.alloc _) ⟨wr.heap.size, 0, none⟩ 1 1 [.int .u8 (T[j].toNat : Int)] rfl rfl (cell_one_new _ _ _) (fun x hx => by simp at hx; subst hx; rfl) (by unfold maxLen; omega) (by omega) (by have := (unhide HBm).size; simp; omega) ?_; intro v' wy hown' hgrow3 hnil3))
                        obtain ⟨g', cap', hv, hown3, hb3⟩ := app_byte (unhide HBm) hownm hown' hgrow3 hnil3
                        subst hv
                        clear hown' hgrow3 hnil3
                        go_roundg (T.size - (j + 1))
                        case measure => omega
                        case rel => exact ⟨j + 1, g', cap', mm ++ [T[j]], by omega, by go_num, by simp, by simp; omega, hide (by rw [unhide hmt, take_next T j hjl]; simp), hown3, hb3⟩
                      · obtain rfl : j = T.size := by omega
                        clear hjl
                        have hme : mm = l ++ T.data.toList := by
                          have := unhide hmt
                          rwa [List.take_of_length_le (by rw [← Lib.size_eq]; exact Nat.le_refl _)] at this
                        clear hmt
                        have HME := hide hme
                        clear hme
                        have HME1 := HME
                        clear HME
                        have ck2 := ((unhide HBm).cell (p := ⟨w1.heap.size, k4, none⟩) hs2).trans (unhide HC2 k4 hlt4)
                        rw [unhide HK4] at ck2
                        clear ck
                        go_wp2_with fail
                        go_loopg [14, 18] key.size (fun g v i wx => ∃ (j gb cap : Nat) (m : List UInt8), j + g = key.size ∧ i = .int .i64 j ∧ v = .slice (some ⟨gb, 0, none⟩) m.length cap ∧ m.length = mm.length + j ∧ Hid (m = mm ++ key.data.toList.take j) ∧ OwnB wx w2.heap.size gb cap m ∧ Below w2.heap.size w2 wx)
                        case atStart => exact ⟨0, _, _, mm, by omega, rfl, rfl, rfl, hide (by simp), hownm, unhide HBm⟩
                        case round =>
                          clear hownm HBm
                          obtain ⟨j, gb, cap, m, hjg, rfl, rfl, hml, hmt, hownm, hbm⟩ := hrel
                          have HBm := hide hbm
                          clear hbm
                          by_cases hjl : j < key.size
                          · go_wp2_with (first | (at_builtin; refine wpList_append_own _ rfl _ _ 28 rfl w2.heap.size 5 j0 (.int .u8 0) 1 1 Tryd.underlying28 hj hy0 hy1 hy2 rfl (by decide) _ _ _ rfl (hownm.alloc _) ⟨wr.heap.size, 0, none⟩ 1 1 [.int .u8 (key[j].toNat : Int)] rfl rfl (cell_one_new _ _ _) (fun x hx => by simp at hx; subst hx; rfl) (by unfold maxLen; omega) (by omega) (by have := (unhide HBm).size; simp; omega) ?_; intro v' wy hown' hgrow3 hnil3))
                            obtain ⟨g', cap', hv, hown3, hb3⟩ := app_byte (unhide HBm) hownm hown' hgrow3 hnil3
                            subst hv
                            clear hown' hgrow3 hnil3
                            go_roundg (key.size - (j + 1))
                            case measure => omega
                            case rel => exact ⟨j + 1, g', cap', m ++ [key[j]], by omega, by go_num, by simp, by simp; omega, hide (by rw [unhide hmt, take_next key j hjl]; simp), hown3, hb3⟩
                          · obtain rfl : j = key.size := by omega
                            clear hjl
                            have hme : m = mm ++ key.data.toList := by
                              have := unhide hmt
                              rwa [List.take_of_length_le (by rw [← Lib.size_eq]; exact Nat.le_refl _)] at this
                            clear hmt
                            have HME := hide hme
                            clear hme
                            go_wp2_with fail
                            go_roundg (ls.length - (k4 + 1))
                            case measure => omega
                            case rel => exact ⟨k4 + 1, gb, cap, m, by omega, by go_num, rfl, hide (by rw [J_step _ ls k4 hlt4, unhide HK4, unhide HME, unhide hlt, if_pos hk0, unhide HME1]), hownm, unhide HBm⟩
                  · have hk0' : ¬ ((0 : Int) < (k4 : Int)) := by omega
                    go_wp2_with fail
                    go_loopg [14, 18] key.size (fun g v i wx => ∃ (j gb cap : Nat) (m : List UInt8), j + g = key.size ∧ i = .int .i64 j ∧ v = .slice (some ⟨gb, 0, none⟩) m.length cap ∧ m.length = l.length + j ∧ Hid (m = l ++ key.data.toList.take j) ∧ OwnB wx w2.heap.size gb cap m ∧ Below w2.heap.size w2 wx)
                    case atStart => exact ⟨0, _, _, l, by omega, rfl, rfl, rfl, hide (by simp), hownm, unhide HBm⟩
                    case round =>
                      clear hownm HBm
                      obtain ⟨j, gb, cap, m, hjg, rfl, rfl, hml, hmt, hownm, hbm⟩ := hrel
                      have HBm := hide hbm
                      clear hbm
                      by_cases hjl : j < key.size
                      · go_wp2_with (first | (at_builtin; refine wpList_append_own _ rfl _ _ 28 rfl w2.heap.size 5 j0 (.int .u8 0) 1 1 Tryd.underlying28 hj hy0 hy1 hy2 rfl (by decide) _ _ _ rfl (hownm.alloc _) ⟨wr.heap.size, 0, none⟩ 1 1 [.int .u8 (key[j].toNat : Int)] rfl rfl (cell_one_new _ _ _) (fun x hx => by simp at hx; subst hx; rfl) (by unfold maxLen; omega) (by omega) (by have := (unhide HBm).size; simp; omega) ?_; intro v' wy hown' hgrow3 hnil3))
                        obtain ⟨g', cap', hv, hown3, hb3⟩ := app_byte (unhide HBm) hownm hown' hgrow3 hnil3
                        subst hv
                        clear hown' hgrow3 hnil3
                        go_roundg (key.size - (j + 1))
                        case measure => omega
                        case rel => exact ⟨j + 1, g', cap', m ++ [key[j]], by omega, by go_num, by simp, by simp; omega, hide (by rw [unhide hmt, take_next key j hjl]; simp), hown3, hb3⟩
                      · obtain rfl : j = key.size := by omega
                        clear hjl
                        have hme : m = l ++ key.data.toList := by
                          have := unhide hmt
                          rwa [List.take_of_length_le (by rw [← Lib.size_eq]; exact Nat.le_refl _)] at this
                        clear hmt
                        have HME := hide hme
                        clear hme
                        go_wp2_with fail
                        go_roundg (ls.length - (k4 + 1))
                        case measure => omega
                        case rel => exact ⟨k4 + 1, gb, cap, m, by omega, by go_num, rfl, hide (by rw [J_step _ ls k4 hlt4, unhide HK4, unhide HME, unhide hlt, if_neg hk0, List.append_nil]), hownm, unhide HBm⟩
                · obtain rfl : k4 = ls.length := by omega
                  clear hlt4
                  have hlen : (⟨l.toArray⟩ : ByteArray).size ≤ 4194304 := by rw [size_mk]; omega
                  have hcv := run_convert_bytes_back (P := Tryd.prog) wr 28 9 5 ⟨gb, 0, none⟩ cap l Tryd.underlying28 Tryd.underlying5 Tryd.underlying9 (own_bytes hownm)
                  have hbag : bagB ⟨l.toArray⟩ = ls := trip (unhide HT).1 false ls hne (unhide HF) (fun h => unhide HLast (by first | exact trivial | exact h)) _ (by show l.toArray.toList = _; rw [List.toList_toArray, ← unhide hlt, List.take_length]; simp)
                  have hbw := unhide HBm
                  have hbw1 : Below w1.heap.size w1 wr := (unhide HB2).trans (hbw.mono (unhide HB2).size)
                  have H7 := hide (split7 ⟨l.toArray⟩ wr hlen ((unhide HM).below hbw1))
                  rw [hbag] at H7
                  have hsl : SrcS wr (some ⟨w1.heap.size, 0, none⟩) ls := SrcS.below (.inr ⟨_, _, rfl, hs2, fun i hi => by rw [Nat.zero_add]; exact unhide HC2 i hi⟩) hbw
                  have HSL := hide hsl
                  have HBW1 := hide hbw1
                  clear hbag hbw hbw1 hsl hownm hlen
                  go_wp2_with fail
                  refine (unhide H7).mono ?_
                  rintro e w5 ⟨a5, rfl, hsrc5, hb5⟩
                  have HS5 := hide hsrc5
                  have HB5 := hide hb5
                  clear hsrc5 hb5
                  go_wp2_with fail
                  refine (same6 ls (some a5) (some ⟨w1.heap.size, 0, none⟩) _ _ w5 (by omega) (unhide HS5) ((unhide HSL).below (unhide HB5))).mono ?_
                  rintro e w6 ⟨rfl, hb6⟩
                  have HB6 := hide (((unhide HBW1).trans ((unhide HB5).mono (unhide HBW1).size)).trans (hb6.mono (Nat.le_trans (unhide HBW1).size (unhide HB5).size)))
                  clear hb6
                  go_wp2_with fail
                  go_ret
                  exact ⟨rfl, unhide HB6⟩
            · have h1' : ¬ ((1 : Int) < (ls.length : Int)) := by omega
              have h1d : decide ((1 : Int) < (ls.length : Int)) = false := decide_eq_false h1'
              have hr0 : (w1.alloc (.cells (madeCells #[.string ⟨#[]⟩] ls.length) 9)).heap[w1.heap.size]? = some (.cells (List.replicate ls.length (Value.string ⟨#[]⟩)).toArray 9 (0, 0)) := by
                rw [← toList_madeCells_one, Array.toArray_toList]
                show (w1.heap.push _)[w1.heap.size]? = _
                simp
              have hb0 : Below w1.heap.size w1 (w1.alloc (.cells (madeCells #[.string ⟨#[]⟩] ls.length) 9)) := (Below.refl _ _).alloc (Nat.le_refl _) _
              have HR0 := hide hr0
              have HB0 := hide hb0
              clear hr0 hb0
              have HCS : Hid (∃ cs, cs = ls.map Value.string) := hide ⟨_, rfl⟩
              obtain ⟨cs, hcs⟩ := unhide HCS
              have hcl : cs.length = ls.length := by rw [hcs]; simp
              have hc0 : ∀ j v, cs[j]? = some v → (w1.alloc (.cells (madeCells #[.string ⟨#[]⟩] ls.length) 9)).cell? ((⟨b, o, none⟩ : Addr).add j) = some v := fun j v hv => by
                have hjl : j < ls.length := by rw [← hcl]; exact (List.getElem?_eq_some_iff.1 hv).1
                have e1 : v = .string (ls.getD j ByteArray.empty) := by
                  rw [hcs, List.getElem?_map, List.getElem?_eq_getElem hjl] at hv
                  simp at hv
                  simp [hjl, hv]
                rw [add_at, e1]
                exact ((unhide HB0).cell (p := ⟨b, o + j, none⟩) hb).trans (unhide HS j hjl)
              have h1c : ∀ v ∈ cs, v.oneCell' = true := fun v hv => by
                rw [hcs] at hv
                obtain ⟨x, _, rfl⟩ := List.mem_map.1 hv
                rfl
              have HC0 := hide hc0
              have H1C := hide h1c
              have HCSE := hide hcs
              clear hc0 h1c hcs HCS
              have hcp := run_copy_row (P := Tryd.prog) (w1.alloc (.cells (madeCells #[.string ⟨#[]⟩] ls.length) 9)) 24 24 3 9 w1.heap.size 0 ls.length ls.length ⟨b, o, none⟩ ls.length kc (List.replicate ls.length (Value.string ⟨#[]⟩)).toArray 9 cs Tryd.underlying24 hsz9 (unhide HR0) (by rw [hcl]; exact (Nat.min_self _).symm) (unhide HC0) (by rw [hcl]; simp) (unhide H1C)
              have e2 : (((List.replicate ls.length (Value.string ⟨#[]⟩)).toArray.toList.take 0 ++ cs ++ (List.replicate ls.length (Value.string ⟨#[]⟩)).toArray.toList.drop (0 + cs.length)).toArray : Array Value) = cs.toArray := by
                rw [hcl]
                simp
              rw [e2] at hcp
              have hb2 := below_setRow (unhide HB0) (Nat.le_refl _) cs.toArray
              have hr2 := setRow_heap _ w1.heap.size _ cs.toArray 9 _ (unhide HR0)
              generalize (w1.alloc (.cells (madeCells #[.string ⟨#[]⟩] ls.length) 9)).setRow w1.heap.size cs.toArray = w2 at *
              have HB2 := hide hb2
              have hc2 : ∀ i, i < ls.length → w2.cell? ⟨w1.heap.size, i, none⟩ = some (.string (ls.getD i ByteArray.empty)) := fun i hi => by
                have hr := hr2
                rw [unhide HCSE] at hr
                simp [World.cell?, hr, hi]
              have hs2 : w1.heap.size < w2.heap.size := by
                have hr := hr2
                rcases Nat.lt_or_ge w1.heap.size w2.heap.size with h' | h'
                · exact h'
                · rw [Array.getElem?_eq_none h'] at hr
                  cases hr
              clear e2
              have HC2 := hide hc2
              clear hb2 hc2 hr2 HB0 HR0 HC0 H1C HCSE
              go_wp2_with fail
              clear hcp hcl
              refine (term10 k w2).mono ?_
              rintro e w3 ⟨rfl, hw3⟩
              have hw3' := hw3.symm
              subst hw3'
              have HT := hide (term_is k)
              have hT2 := (term_is k).2
              generalize termB k = T at *
              have hnum : (16 : Int) * ls.length + tot + 2 * ls.length + 2 = ((16 * ls.length + tot + 2 * ls.length + 2 : Nat) : Int) := by omega
              obtain ⟨w3, hrun3, hown3, hgr3⟩ := run_make_own (P := Tryd.prog) w2 w2.heap.size 28 5 j0 (.int .u8 0) 1 Tryd.underlying28 hj hy0 hy1 .i64 .i64 (16 * ls.length + tot + 2 * ls.length + 2) (by rw [hy2]; omega) (by unfold maxLen; omega) (Nat.le_refl _)
              rw [← hnum] at hrun3
              have hb3 : Below w2.heap.size w2 w3 := (Below.refl _ _).grown hgr3 (Nat.le_refl _) (fun k hk => by cases hk)
              have HO3 := hide hown3
              have HB3 := hide hb3
              clear hown3 hb3 hgr3 hnum
              go_wp2_with fail
              clear hrun3
              go_loopg [14, 15] ls.length (fun g v i wx => ∃ (k4 gb cap : Nat) (l : List UInt8), k4 + g = ls.length ∧ i = .int .i64 k4 ∧ v = .slice (some ⟨gb, 0, none⟩) l.length cap ∧ Hid (J T.data.toList (datas (ls.take k4)) = l) ∧ OwnB wx w2.heap.size gb cap l ∧ Below w2.heap.size w2 wx)
              case atStart => exact ⟨0, _, _, [], by omega, rfl, rfl, hide (by simp [datas, J]), unhide HO3, unhide HB3⟩
              case round =>
                clear HO3 HB3
                obtain ⟨k4, gb, cap, l, hkg, rfl, rfl, hlt, hownm, hbm⟩ := hrel
                have HBm := hide hbm
                clear hbm
                have hll : l.length ≤ tot + 2 * ls.length := by
                  have h1 := J_len T.data.toList (by rw [← Lib.size_eq]; exact hT2) ls k4 (by omega)
                  rw [unhide hlt] at h1
                  have h2 := lenTo_mono ls k4 (ls.length - k4)
                  rw [show k4 + (ls.length - k4) = ls.length by omega, unhide HTot] at h2
                  omega
                by_cases hlt4 : k4 < ls.length
                · have ck := ((unhide HBm).cell (p := ⟨w1.heap.size, k4, none⟩) hs2).trans (unhide HC2 k4 hlt4)
                  have HE : Hid (∃ x, ls.getD k4 ByteArray.empty = x) := hide ⟨_, rfl⟩
                  obtain ⟨key, hkey⟩ := unhide HE
                  rw [hkey] at ck
                  have HK4 := hide hkey
                  clear hkey HE
                  have hks : key.size ≤ 1048576 := by
                    have := lenTo_ge ls k4 hlt4
                    rw [unhide HK4, unhide HTot] at this
                    omega
                  by_cases hk0 : 0 < k4
                  · exact absurd hk0 (by omega)
                  · have hk0' : ¬ ((0 : Int) < (k4 : Int)) := by omega
                    go_wp2_with fail
                    go_loopg [14, 18] key.size (fun g v i wx => ∃ (j gb cap : Nat) (m : List UInt8), j + g = key.size ∧ i = .int .i64 j ∧ v = .slice (some ⟨gb, 0, none⟩) m.length cap ∧ m.length = l.length + j ∧ Hid (m = l ++ key.data.toList.take j) ∧ OwnB wx w2.heap.size gb cap m ∧ Below w2.heap.size w2 wx)
                    case atStart => exact ⟨0, _, _, l, by omega, rfl, rfl, rfl, hide (by simp), hownm, unhide HBm⟩
                    case round =>
                      clear hownm HBm
                      obtain ⟨j, gb, cap, m, hjg, rfl, rfl, hml, hmt, hownm, hbm⟩ := hrel
                      have HBm := hide hbm
                      clear hbm
                      by_cases hjl : j < key.size
                      · go_wp2_with (first | (at_builtin; refine wpList_append_own _ rfl _ _ 28 rfl w2.heap.size 5 j0 (.int .u8 0) 1 1 Tryd.underlying28 hj hy0 hy1 hy2 rfl (by decide) _ _ _ rfl (hownm.alloc _) ⟨wr.heap.size, 0, none⟩ 1 1 [.int .u8 (key[j].toNat : Int)] rfl rfl (cell_one_new _ _ _) (fun x hx => by simp at hx; subst hx; rfl) (by unfold maxLen; omega) (by omega) (by have := (unhide HBm).size; simp; omega) ?_; intro v' wy hown' hgrow3 hnil3))
                        obtain ⟨g', cap', hv, hown3, hb3⟩ := app_byte (unhide HBm) hownm hown' hgrow3 hnil3
                        subst hv
                        clear hown' hgrow3 hnil3
                        go_roundg (key.size - (j + 1))
                        case measure => omega
                        case rel => exact ⟨j + 1, g', cap', m ++ [key[j]], by omega, by go_num, by simp, by simp; omega, hide (by rw [unhide hmt, take_next key j hjl]; simp), hown3, hb3⟩
                      · obtain rfl : j = key.size := by omega
                        clear hjl
                        have hme : m = l ++ key.data.toList := by
                          have := unhide hmt
                          rwa [List.take_of_length_le (by rw [← Lib.size_eq]; exact Nat.le_refl _)] at this
                        clear hmt
                        have HME := hide hme
                        clear hme
                        go_wp2_with fail
                        go_roundg (ls.length - (k4 + 1))
                        case measure => omega
                        case rel => exact ⟨k4 + 1, gb, cap, m, by omega, by go_num, rfl, hide (by rw [J_step _ ls k4 hlt4, unhide HK4, unhide HME, unhide hlt, if_neg hk0, List.append_nil]), hownm, unhide HBm⟩
                · obtain rfl : k4 = ls.length := by omega
                  clear hlt4
                  have hlen : (⟨l.toArray⟩ : ByteArray).size ≤ 4194304 := by rw [size_mk]; omega
                  have hcv := run_convert_bytes_back (P := Tryd.prog) wr 28 9 5 ⟨gb, 0, none⟩ cap l Tryd.underlying28 Tryd.underlying5 Tryd.underlying9 (own_bytes hownm)
                  have hbag : bagB ⟨l.toArray⟩ = ls := trip (unhide HT).1 false ls hne (unhide HF) (fun h => unhide HLast (by first | exact trivial | exact h)) _ (by show l.toArray.toList = _; rw [List.toList_toArray, ← unhide hlt, List.take_length]; simp)
                  have hbw := unhide HBm
                  have hbw1 : Below w1.heap.size w1 wr := (unhide HB2).trans (hbw.mono (unhide HB2).size)
                  have H7 := hide (split7 ⟨l.toArray⟩ wr hlen ((unhide HM).below hbw1))
                  rw [hbag] at H7
                  have hsl : SrcS wr (some ⟨w1.heap.size, 0, none⟩) ls := SrcS.below (.inr ⟨_, _, rfl, hs2, fun i hi => by rw [Nat.zero_add]; exact unhide HC2 i hi⟩) hbw
                  have HSL := hide hsl
                  have HBW1 := hide hbw1
                  clear hbag hbw hbw1 hsl hownm hlen
                  go_wp2_with fail
                  refine (unhide H7).mono ?_
                  rintro e w5 ⟨a5, rfl, hsrc5, hb5⟩
                  have HS5 := hide hsrc5
                  have HB5 := hide hb5
                  clear hsrc5 hb5
                  go_wp2_with fail
                  refine (same6 ls (some a5) (some ⟨w1.heap.size, 0, none⟩) _ _ w5 (by omega) (unhide HS5) ((unhide HSL).below (unhide HB5))).mono ?_
                  rintro e w6 ⟨rfl, hb6⟩
                  have HB6 := hide (((unhide HBW1).trans ((unhide HB5).mono (unhide HBW1).size)).trans (hb6.mono (Nat.le_trans (unhide HBW1).size (unhide HB5).size)))
                  clear hb6
                  go_wp2_with fail
                  go_ret
                  exact ⟨rfl, unhide HB6⟩
          · have hr0 : (w1.alloc (.cells (madeCells #[.string ⟨#[]⟩] ls.length) 9)).heap[w1.heap.size]? = some (.cells (List.replicate ls.length (Value.string ⟨#[]⟩)).toArray 9 (0, 0)) := by
              rw [← toList_madeCells_one, Array.toArray_toList]
              show (w1.heap.push _)[w1.heap.size]? = _
              simp
            have hb0 : Below w1.heap.size w1 (w1.alloc (.cells (madeCells #[.string ⟨#[]⟩] ls.length) 9)) := (Below.refl _ _).alloc (Nat.le_refl _) _
            have HR0 := hide hr0
            have HB0 := hide hb0
            clear hr0 hb0
            have HCS : Hid (∃ cs, cs = ls.map Value.string) := hide ⟨_, rfl⟩
            obtain ⟨cs, hcs⟩ := unhide HCS
            have hcl : cs.length = ls.length := by rw [hcs]; simp
            have hc0 : ∀ j v, cs[j]? = some v → (w1.alloc (.cells (madeCells #[.string ⟨#[]⟩] ls.length) 9)).cell? ((⟨b, o, none⟩ : Addr).add j) = some v := fun j v hv => by
              have hjl : j < ls.length := by rw [← hcl]; exact (List.getElem?_eq_some_iff.1 hv).1
              have e1 : v = .string (ls.getD j ByteArray.empty) := by
                rw [hcs, List.getElem?_map, List.getElem?_eq_getElem hjl] at hv
                simp at hv
                simp [hjl, hv]
              rw [add_at, e1]
              exact ((unhide HB0).cell (p := ⟨b, o + j, none⟩) hb).trans (unhide HS j hjl)
            have h1c : ∀ v ∈ cs, v.oneCell' = true := fun v hv => by
              rw [hcs] at hv
              obtain ⟨x, _, rfl⟩ := List.mem_map.1 hv
              rfl
            have HC0 := hide hc0
            have H1C := hide h1c
            have HCSE := hide hcs
            clear hc0 h1c hcs HCS
            have hcp := run_copy_row (P := Tryd.prog) (w1.alloc (.cells (madeCells #[.string ⟨#[]⟩] ls.length) 9)) 24 24 3 9 w1.heap.size 0 ls.length ls.length ⟨b, o, none⟩ ls.length kc (List.replicate ls.length (Value.string ⟨#[]⟩)).toArray 9 cs Tryd.underlying24 hsz9 (unhide HR0) (by rw [hcl]; exact (Nat.min_self _).symm) (unhide HC0) (by rw [hcl]; simp) (unhide H1C)
            have e2 : (((List.replicate ls.length (Value.string ⟨#[]⟩)).toArray.toList.take 0 ++ cs ++ (List.replicate ls.length (Value.string ⟨#[]⟩)).toArray.toList.drop (0 + cs.length)).toArray : Array Value) = cs.toArray := by
              rw [hcl]
              simp
            rw [e2] at hcp
            have hb2 := below_setRow (unhide HB0) (Nat.le_refl _) cs.toArray
            have hr2 := setRow_heap _ w1.heap.size _ cs.toArray 9 _ (unhide HR0)
            generalize (w1.alloc (.cells (madeCells #[.string ⟨#[]⟩] ls.length) 9)).setRow w1.heap.size cs.toArray = w2 at *
            have HB2 := hide hb2
            have hc2 : ∀ i, i < ls.length → w2.cell? ⟨w1.heap.size, i, none⟩ = some (.string (ls.getD i ByteArray.empty)) := fun i hi => by
              have hr := hr2
              rw [unhide HCSE] at hr
              simp [World.cell?, hr, hi]
            have hs2 : w1.heap.size < w2.heap.size := by
              have hr := hr2
              rcases Nat.lt_or_ge w1.heap.size w2.heap.size with h' | h'
              · exact h'
              · rw [Array.getElem?_eq_none h'] at hr
                cases hr
            clear e2
            have HC2 := hide hc2
            clear hb2 hc2 hr2 HB0 HR0 HC0 H1C HCSE
            go_wp2_with fail
            clear hcp hcl
            refine (term10 k w2).mono ?_
            rintro e w3 ⟨rfl, hw3⟩
            have hw3' := hw3.symm
            subst hw3'
            have HT := hide (term_is k)
            have hT2 := (term_is k).2
            generalize termB k = T at *
            have hnum : (16 : Int) * ls.length + tot + 2 * ls.length + 2 = ((16 * ls.length + tot + 2 * ls.length + 2 : Nat) : Int) := by omega
            obtain ⟨w3, hrun3, hown3, hgr3⟩ := run_make_own (P := Tryd.prog) w2 w2.heap.size 28 5 j0 (.int .u8 0) 1 Tryd.underlying28 hj hy0 hy1 .i64 .i64 (16 * ls.length + tot + 2 * ls.length + 2) (by rw [hy2]; omega) (by unfold maxLen; omega) (Nat.le_refl _)
            rw [← hnum] at hrun3
            have hb3 : Below w2.heap.size w2 w3 := (Below.refl _ _).grown hgr3 (Nat.le_refl _) (fun k hk => by cases hk)
            have HO3 := hide hown3
            have HB3 := hide hb3
            clear hown3 hb3 hgr3 hnum
            go_wp2_with fail
            clear hrun3
            go_loopg [14, 15] ls.length (fun g v i wx => ∃ (k4 gb cap : Nat) (l : List UInt8), k4 + g = ls.length ∧ i = .int .i64 k4 ∧ v = .slice (some ⟨gb, 0, none⟩) l.length cap ∧ Hid (J T.data.toList (datas (ls.take k4)) = l) ∧ OwnB wx w2.heap.size gb cap l ∧ Below w2.heap.size w2 wx)
            case atStart => exact ⟨0, _, _, [], by omega, rfl, rfl, hide (by simp [datas, J]), unhide HO3, unhide HB3⟩
            case round =>
              clear HO3 HB3
              obtain ⟨k4, gb, cap, l, hkg, rfl, rfl, hlt, hownm, hbm⟩ := hrel
              have HBm := hide hbm
              clear hbm
              have hll : l.length ≤ tot + 2 * ls.length := by
                have h1 := J_len T.data.toList (by rw [← Lib.size_eq]; exact hT2) ls k4 (by omega)
                rw [unhide hlt] at h1
                have h2 := lenTo_mono ls k4 (ls.length - k4)
                rw [show k4 + (ls.length - k4) = ls.length by omega, unhide HTot] at h2
                omega
              by_cases hlt4 : k4 < ls.length
              · have ck := ((unhide HBm).cell (p := ⟨w1.heap.size, k4, none⟩) hs2).trans (unhide HC2 k4 hlt4)
                have HE : Hid (∃ x, ls.getD k4 ByteArray.empty = x) := hide ⟨_, rfl⟩
                obtain ⟨key, hkey⟩ := unhide HE
                rw [hkey] at ck
                have HK4 := hide hkey
                clear hkey HE
                have hks : key.size ≤ 1048576 := by
                  have := lenTo_ge ls k4 hlt4
                  rw [unhide HK4, unhide HTot] at this
                  omega
                by_cases hk0 : 0 < k4
                · have hk0' : (0 : Int) < (k4 : Int) := by omega
                  go_wp2_with fail
                  go_loopg [14, 16] T.size (fun g v i wx => ∃ (j gb cap : Nat) (mm : List UInt8), j + g = T.size ∧ i = .int .i64 j ∧ v = .slice (some ⟨gb, 0, none⟩) mm.length cap ∧ mm.length = l.length + j ∧ Hid (mm = l ++ T.data.toList.take j) ∧ OwnB wx w2.heap.size gb cap mm ∧ Below w2.heap.size w2 wx)
                  case atStart => exact ⟨0, _, _, l, by omega, rfl, rfl, rfl, hide (by simp), hownm, unhide HBm⟩
                  case round =>
                    clear hownm HBm
                    obtain ⟨j, gb, cap, mm, hjg, rfl, rfl, hml, hmt, hownm, hbm⟩ := hrel
                    have HBm := hide hbm
                    clear hbm
                    by_cases hjl : j < T.size
                    · go_wp2_with (first | (at_builtin; refine wpList_append_own _ rfl _ _ 28 rfl w2.heap.size 5 j0 (.int .u8 0) 1 1 Tryd.underlying28 hj hy0 hy1 hy2 rfl (by decide) _ _ _ rfl (hownm.alloc _) ⟨wr.heap.size, 0, none⟩ 1 1 [.int .u8 (T[j].toNat : Int)] rfl rfl (cell_one_new _ _ _) (fun x hx => by simp at hx; subst hx; rfl) (by unfold maxLen; omega) (by omega) (by have := (unhide HBm).size; simp; omega) ?_; intro v' wy hown' hgrow3 hnil3))
                      obtain ⟨g', cap', hv, hown3, hb3⟩ := app_byte (unhide HBm) hownm hown' hgrow3 hnil3
                      subst hv
                      clear hown' hgrow3 hnil3
                      go_roundg (T.size - (j + 1))
                      case measure => omega
                      case rel => exact ⟨j + 1, g', cap', mm ++ [T[j]], by omega, by go_num, by simp, by simp; omega, hide (by rw [unhide hmt, take_next T j hjl]; simp), hown3, hb3⟩
                    · obtain rfl : j = T.size := by omega
                      clear hjl
                      have hme : mm = l ++ T.data.toList := by
                        have := unhide hmt
                        rwa [List.take_of_length_le (by rw [← Lib.size_eq]; exact Nat.le_refl _)] at this
                      clear hmt
                      have HME := hide hme
                      clear hme
                      have HME1 := HME
                      clear HME
                      have ck2 := ((unhide HBm).cell (p := ⟨w1.heap.size, k4, none⟩) hs2).trans (unhide HC2 k4 hlt4)
                      rw [unhide HK4] at ck2
                      clear ck
                      go_wp2_with fail
                      go_loopg [14, 18] key.size (fun g v i wx => ∃ (j gb cap : Nat) (m : List UInt8), j + g = key.size ∧ i = .int .i64 j ∧ v = .slice (some ⟨gb, 0, none⟩) m.length cap ∧ m.length = mm.length + j ∧ Hid (m = mm ++ key.data.toList.take j) ∧ OwnB wx w2.heap.size gb cap m ∧ Below w2.heap.size w2 wx)
                      case atStart => exact ⟨0, _, _, mm, by omega, rfl, rfl, rfl, hide (by simp), hownm, unhide HBm⟩
                      case round =>
                        clear hownm HBm
                        obtain ⟨j, gb, cap, m, hjg, rfl, rfl, hml, hmt, hownm, hbm⟩ := hrel
                        have HBm := hide hbm
                        clear hbm
                        by_cases hjl : j < key.size
                        · go_wp2_with (first | (at_builtin; refine wpList_append_own _ rfl _ _ 28 rfl w2.heap.size 5 j0 (.int .u8 0) 1 1 Tryd.underlying28 hj hy0 hy1 hy2 rfl (by decide) _ _ _ rfl (hownm.alloc _) ⟨wr.heap.size, 0, none⟩ 1 1 [.int .u8 (key[j].toNat : Int)] rfl rfl (cell_one_new _ _ _) (fun x hx => by simp at hx; subst hx; rfl) (by unfold maxLen; omega) (by omega) (by have := (unhide HBm).size; simp; omega) ?_; intro v' wy hown' hgrow3 hnil3))
                          obtain ⟨g', cap', hv, hown3, hb3⟩ := app_byte (unhide HBm) hownm hown' hgrow3 hnil3
                          subst hv
                          clear hown' hgrow3 hnil3
                          go_roundg (key.size - (j + 1))
                          case measure => omega
                          case rel => exact ⟨j + 1, g', cap', m ++ [key[j]], by omega, by go_num, by simp, by simp; omega, hide (by rw [unhide hmt, take_next key j hjl]; simp), hown3, hb3⟩
                        · obtain rfl : j = key.size := by omega
                          clear hjl
                          have hme : m = mm ++ key.data.toList := by
                            have := unhide hmt
                            rwa [List.take_of_length_le (by rw [← Lib.size_eq]; exact Nat.le_refl _)] at this
                          clear hmt
                          have HME := hide hme
                          clear hme
                          go_wp2_with fail
                          go_roundg (ls.length - (k4 + 1))
                          case measure => omega
                          case rel => exact ⟨k4 + 1, gb, cap, m, by omega, by go_num, rfl, hide (by rw [J_step _ ls k4 hlt4, unhide HK4, unhide HME, unhide hlt, if_pos hk0, unhide HME1]), hownm, unhide HBm⟩
                · have hk0' : ¬ ((0 : Int) < (k4 : Int)) := by omega
                  go_wp2_with fail
                  go_loopg [14, 18] key.size (fun g v i wx => ∃ (j gb cap : Nat) (m : List UInt8), j + g = key.size ∧ i = .int .i64 j ∧ v = .slice (some ⟨gb, 0, none⟩) m.length cap ∧ m.length = l.length + j ∧ Hid (m = l ++ key.data.toList.take j) ∧ OwnB wx w2.heap.size gb cap m ∧ Below w2.heap.size w2 wx)
                  case atStart => exact ⟨0, _, _, l, by omega, rfl, rfl, rfl, hide (by simp), hownm, unhide HBm⟩
                  case round =>
                    clear hownm HBm
                    obtain ⟨j, gb, cap, m, hjg, rfl, rfl, hml, hmt, hownm, hbm⟩ := hrel
                    have HBm := hide hbm
                    clear hbm
                    by_cases hjl : j < key.size
                    · go_wp2_with (first | (at_builtin; refine wpList_append_own _ rfl _ _ 28 rfl w2.heap.size 5 j0 (.int .u8 0) 1 1 Tryd.underlying28 hj hy0 hy1 hy2 rfl (by decide) _ _ _ rfl (hownm.alloc _) ⟨wr.heap.size, 0, none⟩ 1 1 [.int .u8 (key[j].toNat : Int)] rfl rfl (cell_one_new _ _ _) (fun x hx => by simp at hx; subst hx; rfl) (by unfold maxLen; omega) (by omega) (by have := (unhide HBm).size; simp; omega) ?_; intro v' wy hown' hgrow3 hnil3))
                      obtain ⟨g', cap', hv, hown3, hb3⟩ := app_byte (unhide HBm) hownm hown' hgrow3 hnil3
                      subst hv
                      clear hown' hgrow3 hnil3
                      go_roundg (key.size - (j + 1))
                      case measure => omega
                      case rel => exact ⟨j + 1, g', cap', m ++ [key[j]], by omega, by go_num, by simp, by simp; omega, hide (by rw [unhide hmt, take_next key j hjl]; simp), hown3, hb3⟩
                    · obtain rfl : j = key.size := by omega
                      clear hjl
                      have hme : m = l ++ key.data.toList := by
                        have := unhide hmt
                        rwa [List.take_of_length_le (by rw [← Lib.size_eq]; exact Nat.le_refl _)] at this
                      clear hmt
                      have HME := hide hme
                      clear hme
                      go_wp2_with fail
                      go_roundg (ls.length - (k4 + 1))
                      case measure => omega
                      case rel => exact ⟨k4 + 1, gb, cap, m, by omega, by go_num, rfl, hide (by rw [J_step _ ls k4 hlt4, unhide HK4, unhide HME, unhide hlt, if_neg hk0, List.append_nil]), hownm, unhide HBm⟩
              · obtain rfl : k4 = ls.length := by omega
                clear hlt4
                go_wp2_with fail
                go_loopg [14, 19] T.size (fun g v i wx => ∃ (j gb cap : Nat) (m : List UInt8), j + g = T.size ∧ i = .int .i64 j ∧ v = .slice (some ⟨gb, 0, none⟩) m.length cap ∧ m.length = l.length + j ∧ Hid (m = l ++ T.data.toList.take j) ∧ OwnB wx w2.heap.size gb cap m ∧ Below w2.heap.size w2 wx)
                case atStart => exact ⟨0, _, _, l, by omega, rfl, rfl, rfl, hide (by simp), hownm, unhide HBm⟩
                case round =>
                  clear hownm HBm
                  obtain ⟨j, gb, cap, m, hjg, rfl, rfl, hml, hmt, hownm, hbm⟩ := hrel
                  have HBm := hide hbm
                  clear hbm
                  by_cases hjl : j < T.size
                  · go_wp2_with (first | (at_builtin; refine wpList_append_own _ rfl _ _ 28 rfl w2.heap.size 5 j0 (.int .u8 0) 1 1 Tryd.underlying28 hj hy0 hy1 hy2 rfl (by decide) _ _ _ rfl (hownm.alloc _) ⟨wr.heap.size, 0, none⟩ 1 1 [.int .u8 (T[j].toNat : Int)] rfl rfl (cell_one_new _ _ _) (fun x hx => by simp at hx; subst hx; rfl) (by unfold maxLen; omega) (by omega) (by have := (unhide HBm).size; simp; omega) ?_; intro v' wy hown' hgrow3 hnil3))
                    obtain ⟨g', cap', hv, hown3, hb3⟩ := app_byte (unhide HBm) hownm hown' hgrow3 hnil3
                    subst hv
                    clear hown' hgrow3 hnil3
                    go_roundg (T.size - (j + 1))
                    case measure => omega
                    case rel => exact ⟨j + 1, g', cap', m ++ [T[j]], by omega, by go_num, by simp, by simp; omega, hide (by rw [unhide hmt, take_next T j hjl]; simp), hown3, hb3⟩
                  · obtain rfl : j = T.size := by omega
                    clear hjl
                    have hme : m = l ++ T.data.toList := by
                      have := unhide hmt
                      rwa [List.take_of_length_le (by rw [← Lib.size_eq]; exact Nat.le_refl _)] at this
                    clear hmt
                    have HME := hide hme
                    clear hme
                    have hlen : (⟨m.toArray⟩ : ByteArray).size ≤ 4194304 := by rw [size_mk]; omega
                    have hcv := run_convert_bytes_back (P := Tryd.prog) wr 28 9 5 ⟨gb, 0, none⟩ cap m Tryd.underlying28 Tryd.underlying5 Tryd.underlying9 (own_bytes hownm)
                    have hbag : bagB ⟨m.toArray⟩ = ls := trip (unhide HT).1 true ls hne (unhide HF) (fun h => by cases h) _ (by show m.toArray.toList = _; rw [List.toList_toArray, unhide HME, ← unhide hlt, List.take_length]; rfl)
                    have hbw := unhide HBm
                    have hbw1 : Below w1.heap.size w1 wr := (unhide HB2).trans (hbw.mono (unhide HB2).size)
                    have H7 := hide (split7 ⟨m.toArray⟩ wr hlen ((unhide HM).below hbw1))
                    rw [hbag] at H7
                    have hsl : SrcS wr (some ⟨w1.heap.size, 0, none⟩) ls := SrcS.below (.inr ⟨_, _, rfl, hs2, fun i hi => by rw [Nat.zero_add]; exact unhide HC2 i hi⟩) hbw
                    have HSL := hide hsl
                    have HBW1 := hide hbw1
                    clear hbag hbw hbw1 hsl hownm hlen hml
                    go_wp2_with fail
                    refine (unhide H7).mono ?_
                    rintro e w5 ⟨a5, rfl, hsrc5, hb5⟩
                    have HS5 := hide hsrc5
                    have HB5 := hide hb5
                    clear hsrc5 hb5
                    go_wp2_with fail
                    refine (same6 ls (some a5) (some ⟨w1.heap.size, 0, none⟩) _ _ w5 (by omega) (unhide HS5) ((unhide HSL).below (unhide HB5))).mono ?_
                    rintro e w6 ⟨rfl, hb6⟩
                    have HB6 := hide (((unhide HBW1).trans ((unhide HB5).mono (unhide HBW1).size)).trans (hb6.mono (Nat.le_trans (unhide HBW1).size (unhide HB5).size)))
                    clear hb6
                    go_wp2_with fail
                    go_ret
                    exact ⟨rfl, unhide HB6⟩
end Go.Proofs.Qxb6602032aDoor
