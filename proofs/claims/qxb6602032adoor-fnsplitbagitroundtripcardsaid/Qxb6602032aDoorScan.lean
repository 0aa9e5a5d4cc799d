/-
  THE WALK of scanBagItLines: it returns the pieces of the one-pass scan, a last empty piece behind others dropped.
-/
import Derived.Test.Qxb6602032aDoorWalkA
namespace Go.Proofs.Qxb6602032aDoor
open Go.RowKit Bag

/-! ### plain -/
theorem scan_lf (cur r : List UInt8) : scan cur (10 :: r) = cur :: scan [] r := by
  cases r with
  | nil => simp [scan]
  | cons c r => simp [scan]
theorem scan_crlf (cur r : List UInt8) : scan cur (13 :: 10 :: r) = cur :: scan [] r := by simp [scan]
theorem scan_cr (cur r : List UInt8) (h : r.head? ≠ some 10) : scan cur (13 :: r) = cur :: scan [] r := by
  cases r with
  | nil => simp [scan]
  | cons c r =>
    have hc : c ≠ 10 := fun e => h (by rw [e]; rfl)
    simp [scan, hc]
theorem scan_other (cur r : List UInt8) (b : UInt8) (h1 : b ≠ 10) (h2 : b ≠ 13) : scan cur (b :: r) = scan (cur ++ [b]) r := by
  cases r with
  | nil => simp [scan, h1, h2]
  | cons c r => simp [scan, h1, h2]
/-- What the loop keeps: done are the pieces so far, the piece that is being read runs from st to i. -/
def Inv (s : ByteArray) (done : List ByteArray) (st i : Nat) : Prop := scan [] s.data.toList = done.map (·.data.toList) ++ scan (s.extract st i).data.toList (s.data.toList.drop i)
theorem inv_start (s : ByteArray) : Inv s [] 0 0 := by
  unfold Inv
  have : (s.extract 0 0).data.toList = [] := by rw [Lib.extract_data]; simp
  rw [this]; simp
theorem drop_at (s : ByteArray) (i : Nat) (h : i < s.size) : s.data.toList.drop i = s[i] :: s.data.toList.drop (i + 1) := by
  have hl : i < s.data.toList.length := by rw [← Lib.size_eq]; exact h
  rw [List.drop_eq_getElem_cons hl]
  rfl
theorem extract_self (s : ByteArray) (i : Nat) : (s.extract i i).data.toList = [] := by rw [Lib.extract_data]; simp
theorem extract_snoc (s : ByteArray) (st i : Nat) (h1 : st ≤ i) (h2 : i < s.size) : (s.extract st (i + 1)).data.toList = (s.extract st i).data.toList ++ [s[i]] := by
  rw [Lib.extract_data, Lib.extract_data]
  have hl : i - st < (s.data.toList.drop st).length := by rw [List.length_drop, ← Lib.size_eq]; omega
  rw [show i + 1 - st = (i - st) + 1 by omega, List.take_succ_eq_append_getElem hl]
  congr 2
  rw [List.getElem_drop]
  have : st + (i - st) = i := by omega
  simp only [this]
  rfl
theorem inv_cut {s : ByteArray} {done : List ByteArray} {st i j : Nat} (h : Inv s done st i) (hs : scan (s.extract st i).data.toList (s.data.toList.drop i) = (s.extract st i).data.toList :: scan [] (s.data.toList.drop j)) : Inv s (done ++ [s.extract st i]) j j := by
  unfold Inv at *
  rw [h, hs, extract_self]
  simp
theorem byte_eq {x : UInt8} {n : Nat} (hn : n < 256) (h : ((x.toNat : Int) == (n : Int)) = true) : x = UInt8.ofNat n := by
  have := beq_iff_eq.1 h
  apply UInt8.toNat_inj.1
  rw [UInt8.toNat_ofNat']
  omega
theorem byte_ne {x : UInt8} {n : Nat} (hn : n < 256) (h : ((x.toNat : Int) == (n : Int)) = false) : x ≠ UInt8.ofNat n := fun e => by
  have := beq_eq_false_iff_ne.1 h
  rw [e, UInt8.toNat_ofNat'] at this
  omega
theorem inv_lf {s : ByteArray} {done : List ByteArray} {st i : Nat} (h : Inv s done st i) (hi : i < s.size) (hb : ((s[i].toNat : Int) == 10) = true) : Inv s (done ++ [s.extract st i]) (i + 1) (i + 1) := by
  refine inv_cut h ?_
  rw [drop_at s i hi, show s[i] = 10 from byte_eq (n := 10) (by omega) hb, scan_lf]
theorem inv_crlf {s : ByteArray} {done : List ByteArray} {st i : Nat} (h : Inv s done st i) (hi : i + 1 < s.size) (hb : ((s[i].toNat : Int) == 13) = true) (hc : ((s[i + 1].toNat : Int) == 10) = true) : Inv s (done ++ [s.extract st i]) (i + 2) (i + 2) := by
  refine inv_cut h ?_
  rw [drop_at s i (by omega), drop_at s (i + 1) hi, show s[i] = 13 from byte_eq (n := 13) (by omega) hb, show s[i + 1] = 10 from byte_eq (n := 10) (by omega) hc, scan_crlf]
theorem inv_cr {s : ByteArray} {done : List ByteArray} {st i : Nat} (h : Inv s done st i) (hi : i < s.size) (hb : ((s[i].toNat : Int) == 13) = true) (hc : ∀ g : i + 1 < s.size, ((s[i + 1].toNat : Int) == 10) = false) : Inv s (done ++ [s.extract st i]) (i + 1) (i + 1) := by
  refine inv_cut h ?_
  rw [drop_at s i hi, show s[i] = 13 from byte_eq (n := 13) (by omega) hb, scan_cr]
  by_cases g : i + 1 < s.size
  · rw [drop_at s (i + 1) g]
    intro e
    exact byte_ne (n := 10) (by omega) (hc g) (by simpa using e)
  · rw [List.drop_eq_nil_of_le (by rw [← Lib.size_eq]; omega)]
    simp
theorem inv_other {s : ByteArray} {done : List ByteArray} {st i : Nat} (h : Inv s done st i) (h1 : st ≤ i) (hi : i < s.size) (hb : ((s[i].toNat : Int) == 10) = false) (hc : ((s[i].toNat : Int) == 13) = false) : Inv s done st (i + 1) := by
  unfold Inv at *
  rw [h, drop_at s i hi, scan_other _ _ _ (byte_ne (n := 10) (by omega) hb) (byte_ne (n := 13) (by omega) hc), extract_snoc s st i h1 hi]
/-- AT THE END. -/
theorem inv_end {s : ByteArray} {done : List ByteArray} {st : Nat} (h : Inv s done st s.size) : scan [] s.data.toList = (done ++ [s.extract st s.size]).map (·.data.toList) := by
  unfold Inv at h
  rw [h, List.drop_eq_nil_of_le (by rw [← Lib.size_eq]; exact Nat.le_refl _)]
  simp [scan]
theorem fin_more {s : ByteArray} {done : List ByteArray} {st : Nat} (h : Inv s done st s.size) (hc : st < s.size ∨ done = []) : (done ++ [s.extract st s.size]).map (·.data.toList) = fin (scan [] s.data.toList) := by
  rw [inv_end h]
  unfold fin
  rw [if_neg]
  rintro ⟨h1, h2⟩
  rcases hc with hc | hc
  · have h3 : (s.extract st s.size).data.toList = [] := by simpa using h1
    have := congrArg List.length h3
    rw [← Lib.size_eq, ByteArray.size_extract] at this
    simp at this
    omega
  · subst hc; simp at h2
theorem fin_done {s : ByteArray} {done : List ByteArray} (h : Inv s done s.size s.size) (hc : done ≠ []) : done.map (·.data.toList) = fin (scan [] s.data.toList) := by
  rw [inv_end h]
  unfold fin
  have : 0 < done.length := List.length_pos_iff.2 hc
  rw [if_pos ⟨by simp, by simp; omega⟩]
  simp

/-! ### an owned row of strings -/
abbrev OwnS (w : World) (base g cap : Nat) (xs : List ByteArray) : Prop := w.ownsRow base 9 1 (.slice (some ⟨g, 0, none⟩) xs.length cap) xs.length (xs.map Value.string)
theorem own_src {w : World} {base g cap : Nat} {xs : List ByteArray} (h : OwnS w base g cap xs) : SrcS w (some ⟨g, 0, none⟩) xs := by
  right
  have hlt := (h.lt g rfl).2
  refine ⟨g, 0, rfl, hlt, fun i hi => ?_⟩
  have := h.cells (g := g) rfl i (.string (xs.getD i ByteArray.empty)) (by simp [hi])
  rw [← this]
  congr 1
  by_cases e : i = 0
  · subst e; simp [Addr.add]
  · simp [Addr.add, e]
theorem own_shape {w : World} {base n : Nat} {v : Value} {ys : List Value} (h : w.ownsRow base 9 1 v n ys) (hv : v ≠ .slice none 0 0) : ∃ g cap, v = .slice (some ⟨g, 0, none⟩) n cap := by
  rcases h.2 with ⟨h1, _⟩ | ⟨g, cap, _, h1, _⟩
  · exact absurd h1 hv
  · exact ⟨g, cap, h1⟩
theorem made24 (w : World) : (Instr.makeSlice 24 (.int .i64 0) (.int .i64 8)).run Tryd.prog w = .ok (.slice (some ⟨w.heap.size, 0, none⟩) 0 8) (w.alloc (.cells (Array.replicate 8 (.string ⟨#[]⟩)) 9)) := by kernel_rfl
theorem info9 : (Tryd.prog.info? 9).map (fun i => (i.zero, i.size, i.bytes)) = some (some (.string ⟨#[]⟩), 1, 16) := by kernel_rfl

/-- Behind an append: the new row, and that nothing old has turned. -/
theorem app_end {w wr w3 : World} {gb cap : Nat} {done : List ByteArray} {x : ByteArray} {v' : Value} (hb : Below w.heap.size w wr) (hown : OwnS wr w.heap.size gb cap done)
    (hown' : w3.ownsRow w.heap.size 9 1 v' (done.length + 1) (done.map Value.string ++ [.string x]))
    (hg : (wr.alloc (.cells #[.string x] 9)).grownBy w3 (Value.ownBlock (.slice (some ⟨gb, 0, none⟩) done.length cap))) (hnil : v' = .slice none 0 0 ↔ (Value.slice (some ⟨gb, 0, none⟩) done.length cap = .slice none 0 0 ∧ 1 = 0)) :
    ∃ g' cap', v' = .slice (some ⟨g', 0, none⟩) (done.length + 1) cap' ∧ OwnS w3 w.heap.size g' cap' (done ++ [x]) ∧ Below w.heap.size w w3 := by
  obtain ⟨g', cap', rfl⟩ := own_shape hown' (fun e => by have := hnil.1 e; omega)
  refine ⟨g', cap', rfl, by simpa [OwnS] using hown', ?_⟩
  have h1 : Below w.heap.size w (wr.alloc (.cells #[.string x] 9)) := hb.alloc hb.size _
  refine h1.grown hg (by have := h1.size; exact this) (fun k hk => ?_)
  cases hk
  exact (hown.lt gb rfl).1

set_option maxHeartbeats 4000000 in
theorem scan8 (s : ByteArray) (w : World) (hs : s.size ≤ 1048576) :
    Calls Tryd.prog 8 #[.string s] w fun e w' => ∃ a c xs, e = .returned (.slice (some a) xs.length c) ∧ xs.map (·.data.toList) = fin (scan [] s.data.toList) ∧ SrcS w' (some a) xs ∧ Below w.heap.size w w' := by
  have hmk := made24
  obtain ⟨i0, hi, hz0, hz1, hz2⟩ := info_parts info9
  go_enter Tryd.func8, Tryd.ntmps8
  go_wp2_with fail
  go_loopg [3, 4, 5] s.size (fun g v a b wx => ∃ (done : List ByteArray) (st i gb cap : Nat), i + g = s.size ∧ st ≤ i ∧ done.length ≤ i ∧ v = .slice (some ⟨gb, 0, none⟩) done.length cap ∧ a = .int .i64 st ∧ b = .int .i64 i ∧
    OwnS wx w.heap.size gb cap done ∧ Below w.heap.size w wx ∧ Inv s done st i)
  case atStart => exact ⟨[], 0, 0, w.heap.size, 8, by omega, by omega, by simp, rfl, rfl, rfl, World.ownsRow_made w _ 8 (Nat.le_refl _) (by decide) rfl, (Below.refl _ _).alloc (Nat.le_refl _) _, inv_start s⟩
  case round =>
    obtain ⟨done, st, i, gb, cap, hig, hst, hdl, rfl, rfl, rfl, hown, hbw, hinv⟩ := hrel
    have HI := hide hinv
    have HB := hide hbw
    clear hinv hbw
    by_cases hlt : i < s.size
    · cases h10 : ((s[i].toNat : Int) == 10)
      · cases h13 : ((s[i].toNat : Int) == 13)
        · go_wp2_with fail
          go_roundg (s.size - (i + 1))
          case measure => omega
          case rel => exact ⟨done, st, i + 1, gb, cap, by omega, by omega, by omega, rfl, rfl, by go_num, hown, unhide HB, inv_other (unhide HI) hst hlt h10 h13⟩
        · by_cases hn : i + 1 < s.size
          · cases hc : ((s[i + 1].toNat : Int) == 10)
            · go_wp2_with (first | (at_builtin; refine wpList_append_own _ rfl _ _ 24 rfl w.heap.size 9 i0 (.string ⟨#[]⟩) 1 16 Tryd.underlying24 hi hz0 hz1 hz2 rfl (by decide) _ _ _ rfl (hown.alloc _) ⟨wr.heap.size, 0, none⟩ 1 1 [.string (s.extract st i)] rfl rfl (cell_one_new _ _ _) (fun x hx => by simp at hx; subst hx; rfl) (by unfold maxLen; omega) (by omega) (by have := (unhide HB).size; simp; omega) ?_; intro v' w3 hown' hgrow3 hnil3))
              obtain ⟨g', cap', hv, hown3, hb3⟩ := app_end (unhide HB) hown hown' hgrow3 hnil3
              subst hv
              clear hown' hgrow3 hnil3
              go_roundg (s.size - (i + 1))
              case measure => omega
              case rel => exact ⟨done ++ [s.extract st i], i + 1, i + 1, g', cap', by omega, by omega, by simp; omega, by simp, by go_num, by go_num, hown3, hb3, inv_cr (unhide HI) hlt h13 (fun _ => hc)⟩
            · go_wp2_with (first | (at_builtin; refine wpList_append_own _ rfl _ _ 24 rfl w.heap.size 9 i0 (.string ⟨#[]⟩) 1 16 Tryd.underlying24 hi hz0 hz1 hz2 rfl (by decide) _ _ _ rfl (hown.alloc _) ⟨wr.heap.size, 0, none⟩ 1 1 [.string (s.extract st i)] rfl rfl (cell_one_new _ _ _) (fun x hx => by simp at hx; subst hx; rfl) (by unfold maxLen; omega) (by omega) (by have := (unhide HB).size; simp; omega) ?_; intro v' w3 hown' hgrow3 hnil3))
              obtain ⟨g', cap', hv, hown3, hb3⟩ := app_end (unhide HB) hown hown' hgrow3 hnil3
              subst hv
              clear hown' hgrow3 hnil3
              go_roundg (s.size - (i + 2))
              case measure => omega
              case rel => exact ⟨done ++ [s.extract st i], i + 2, i + 2, g', cap', by omega, by omega, by simp; omega, by simp, by go_num, by go_num, hown3, hb3, inv_crlf (unhide HI) hn h13 hc⟩
          · have hn' : ¬ ((i : Int) + 1 < (s.size : Int)) := by omega
            have hnd : decide ((i : Int) + 1 < (s.size : Int)) = false := decide_eq_false hn'
            go_wp2_with (first | (at_builtin; refine wpList_append_own _ rfl _ _ 24 rfl w.heap.size 9 i0 (.string ⟨#[]⟩) 1 16 Tryd.underlying24 hi hz0 hz1 hz2 rfl (by decide) _ _ _ rfl (hown.alloc _) ⟨wr.heap.size, 0, none⟩ 1 1 [.string (s.extract st i)] rfl rfl (cell_one_new _ _ _) (fun x hx => by simp at hx; subst hx; rfl) (by unfold maxLen; omega) (by omega) (by have := (unhide HB).size; simp; omega) ?_; intro v' w3 hown' hgrow3 hnil3))
            obtain ⟨g', cap', hv, hown3, hb3⟩ := app_end (unhide HB) hown hown' hgrow3 hnil3
            subst hv
            clear hown' hgrow3 hnil3
            go_roundg (s.size - (i + 1))
            case measure => omega
            case rel => exact ⟨done ++ [s.extract st i], i + 1, i + 1, g', cap', by omega, by omega, by simp; omega, by simp, by go_num, by go_num, hown3, hb3, inv_cr (unhide HI) hlt h13 (fun g => absurd g hn)⟩
      · go_wp2_with (first | (at_builtin; refine wpList_append_own _ rfl _ _ 24 rfl w.heap.size 9 i0 (.string ⟨#[]⟩) 1 16 Tryd.underlying24 hi hz0 hz1 hz2 rfl (by decide) _ _ _ rfl (hown.alloc _) ⟨wr.heap.size, 0, none⟩ 1 1 [.string (s.extract st i)] rfl rfl (cell_one_new _ _ _) (fun x hx => by simp at hx; subst hx; rfl) (by unfold maxLen; omega) (by omega) (by have := (unhide HB).size; simp; omega) ?_; intro v' w3 hown' hgrow3 hnil3))
        obtain ⟨g', cap', hv, hown3, hb3⟩ := app_end (unhide HB) hown hown' hgrow3 hnil3
        subst hv
        clear hown' hgrow3 hnil3
        go_roundg (s.size - (i + 1))
        case measure => omega
        case rel => exact ⟨done ++ [s.extract st i], i + 1, i + 1, g', cap', by omega, by omega, by simp; omega, by simp, by go_num, by go_num, hown3, hb3, inv_lf (unhide HI) hlt h10⟩
    · obtain rfl : i = s.size := by omega
      clear hlt
      by_cases hend : st < s.size
      · have he : (st : Int) < (s.size : Int) := by omega
        go_wp2_with (first | (at_builtin; refine wpList_append_own _ rfl _ _ 24 rfl w.heap.size 9 i0 (.string ⟨#[]⟩) 1 16 Tryd.underlying24 hi hz0 hz1 hz2 rfl (by decide) _ _ _ rfl (hown.alloc _) ⟨wr.heap.size, 0, none⟩ 1 1 [.string (s.extract st s.size)] rfl rfl (cell_one_new _ _ _) (fun x hx => by simp at hx; subst hx; rfl) (by unfold maxLen; omega) (by omega) (by have := (unhide HB).size; simp; omega) ?_; intro v' w3 hown' hgrow3 hnil3))
        obtain ⟨g', cap', hv, hown3, hb3⟩ := app_end (unhide HB) hown hown' hgrow3 hnil3
        subst hv
        clear hown' hgrow3 hnil3
        go_ret
        exact ⟨_, cap', done ++ [s.extract st s.size], by simp, fin_more (unhide HI) (.inl hend), own_src hown3, hb3⟩
      · have hst' : st = s.size := by omega
        have HST := hide hst'
        clear hst'
        have hed : decide ((st : Int) < (s.size : Int)) = false := decide_eq_false (by omega)
        cases hdn : ((done.length : Int) == 0)
        · go_wp2_with fail
          go_ret
          exact ⟨_, cap, done, rfl, fin_done (by have := unhide HI; rwa [unhide HST] at this) (fun e => by rw [e] at hdn; simp at hdn), own_src hown, unhide HB⟩
        · have hd0 : done = [] := by
            have := beq_iff_eq.1 hdn
            exact List.length_eq_zero_iff.1 (by omega)
          have HD0 := hide hd0
          clear hd0
          go_wp2_with (first | (at_builtin; refine wpList_append_own _ rfl _ _ 24 rfl w.heap.size 9 i0 (.string ⟨#[]⟩) 1 16 Tryd.underlying24 hi hz0 hz1 hz2 rfl (by decide) _ _ _ rfl (hown.alloc _) ⟨wr.heap.size, 0, none⟩ 1 1 [.string (s.extract st s.size)] rfl rfl (cell_one_new _ _ _) (fun x hx => by simp at hx; subst hx; rfl) (by unfold maxLen; omega) (by omega) (by have := (unhide HB).size; simp; omega) ?_; intro v' w3 hown' hgrow3 hnil3))
          obtain ⟨g', cap', hv, hown3, hb3⟩ := app_end (unhide HB) hown hown' hgrow3 hnil3
          subst hv
          clear hown' hgrow3 hnil3
          go_ret
          exact ⟨_, cap', done ++ [s.extract st s.size], by simp, fin_more (unhide HI) (.inr (unhide HD0)), own_src hown3, hb3⟩
end Go.Proofs.Qxb6602032aDoor
