/-
  strings.IndexAny at chars slash, question mark, hash and EVERY string: the first byte that is one of the three. (The shelf has it for s of more than 8 bytes; here the short road, bytes beyond ASCII too.)
-/
import Derived.Test.Qxb6602029aDoorRune
import Derived.Lib.OthersKept
import Derived.Lib.DecodeN
import Derived.Deep.LoopGhost
namespace Go.Proofs.Qxb6602029aDoor
open Go.RowKit

/-! ### plain -/
theorem enc_valid {r : Int} (h : Lib.validRune r = true) : Utf8.valid r = true := by
  have := of_decide_eq_true h
  unfold Utf8.valid
  simp
  omega
theorem size_two {r : Int} (h : Lib.validRune r = true) (h0 : 128 ≤ r) (h1 : r < 2048) : Utf8.encode r = ⟨#[UInt8.ofNat (0xC0 + r.toNat / 64), UInt8.ofNat (0x80 + r.toNat % 64)]⟩ := by
  unfold Utf8.encode
  rw [enc_valid h]
  have a : ¬ r.toNat < 0x80 := by omega
  have b : r.toNat < 0x800 := by omega
  simp [a, b]
theorem size_three {r : Int} (h : Lib.validRune r = true) (h0 : 2048 ≤ r) (h1 : r < 65536) : Utf8.encode r = ⟨#[UInt8.ofNat (0xE0 + r.toNat / 4096), UInt8.ofNat (0x80 + r.toNat / 64 % 64), UInt8.ofNat (0x80 + r.toNat % 64)]⟩ := by
  unfold Utf8.encode
  rw [enc_valid h]
  have a : ¬ r.toNat < 0x80 := by omega
  have b : ¬ r.toNat < 0x800 := by omega
  have c : r.toNat < 0x10000 := by omega
  simp [a, b, c]
theorem size_four {r : Int} (h : Lib.validRune r = true) (h0 : 65536 ≤ r) : (Utf8.encode r).size = 4 := by
  unfold Utf8.encode
  rw [enc_valid h]
  have a : ¬ r.toNat < 0x80 := by omega
  have b : ¬ r.toNat < 0x800 := by omega
  have c : ¬ r.toNat < 0x10000 := by omega
  simp [a, b, c]
  rfl
theorem last_byte (n : Nat) : 128 ≤ (UInt8.ofNat (0x80 + n % 64)).toNat := by
  rw [UInt8.toNat_ofNat']
  omega

theorem ir_high (r : Int) (w : World) (h0 : 128 ≤ r) :
    Calls Tryd.prog 56 #[.string ⟨#[47, 63, 35]⟩, .int .i32 r] w fun e w' => e = .returned (.int .i64 (-1)) ∧ Below w.heap.size w w' := by
  by_cases he : r = 65533
  · subst he; exact ir_err w
  have he' : (r == 65533) = false := beq_eq_false_iff_ne.2 he
  cases hv : Lib.validRune r with
  | false => exact ir_bad r w h0 he' hv
  | true =>
    by_cases h1 : r < 2048
    · have e := size_two hv h0 h1
      exact ir_two r _ w h0 he' hv e rfl (last_byte _)
    · by_cases h2 : r < 65536
      · have e := size_three hv (by omega) h2
        exact ir_three r _ w h0 he' hv e rfl (last_byte _)
      · exact ir_four r _ w h0 he' hv rfl (size_four hv (by omega))

/-- What a decoding step passes over, where the byte is beyond ASCII: bytes beyond ASCII, within the string. -/
theorem decode_pass (s : ByteArray) (pos : Nat) (h : pos < s.size) (ha : 128 ≤ (s.get! pos).toNat) :
    1 ≤ (Utf8.decode s pos).2 ∧ pos + (Utf8.decode s pos).2 ≤ s.size ∧ ∀ j, pos ≤ j → j < pos + (Utf8.decode s pos).2 → 128 ≤ (s.get! j).toNat := by
  have hd := Lib.decode_at s pos
  generalize Utf8.decode s pos = d at *
  generalize hb0 : (s.get! pos).toNat = b0 at *
  generalize hb1 : (s.get! (pos + 1)).toNat = b1 at *
  generalize hb2 : (s.get! (pos + 2)).toNat = b2 at *
  generalize hb3 : (s.get! (pos + 3)).toNat = b3 at *
  unfold Lib.decodeN at hd
  have hj : ∀ j, pos ≤ j → j = pos ∨ j = pos + 1 ∨ j = pos + 2 ∨ j = pos + 3 ∨ pos + 4 ≤ j := fun j _ => by omega
  repeat' split at hd
  all_goals
    subst hd
    refine ⟨by omega, by first | omega | (simp only []; omega), fun j g1 g2 => ?_⟩
    simp only [] at g2
    rcases hj j g1 with rfl | rfl | rfl | rfl | g3 <;> omega
theorem get_eq (s : ByteArray) (j : Nat) (b : UInt8) (h : s.data.toList[j]? = some b) : s.get! j = b := by
  have hl : j < s.data.toList.length := (List.getElem?_eq_some_iff.1 h).1
  rw [List.getElem?_eq_getElem hl] at h
  have e : s.get! j = s.data[j]! := rfl
  rw [e, getElem!_pos s.data j (by simpa using hl)]
  simpa using h
theorem three_ascii (b : UInt8) (h : 128 ≤ b.toNat) : ([47, 63, 35] : List UInt8).contains b = false := by
  have h1 : b ≠ 47 := fun e => by subst e; exact absurd h (by decide)
  have h2 : b ≠ 63 := fun e => by subst e; exact absurd h (by decide)
  have h3 : b ≠ 35 := fun e => by subst e; exact absurd h (by decide)
  simp [h1, h2, h3]
theorem noAny_pass {s : ByteArray} {i n : Nat} (hn : Lib.NoAny s.data.toList [47, 63, 35] i) (hp : ∀ j, i ≤ j → j < i + n → 128 ≤ (s.get! j).toNat) : Lib.NoAny s.data.toList [47, 63, 35] (i + n) := fun j b hj hb => by
  by_cases h : j < i
  · exact hn j b h hb
  · have := hp j (by omega) hj
    rw [get_eq s j b hb] at this
    exact three_ascii b this

theorem use57 (n : Int) (w : World) : Calls Tryd.prog 57 #[.int .i64 n] w fun e w' => e = .returned (.bool (decide (8 < n))) ∧ w' = w := Any.strings_shouldUseASCIISet Tryd.lays226 n w
theorem ir_ascii (r : Int) (w : World) (h0 : 0 ≤ r) (h1 : r < 128) : Calls Tryd.prog 56 #[.string ⟨#[47, 63, 35]⟩, .int .i32 r] w fun e w' => e = .returned (.int .i64 (Lib.indexByte [47, 63, 35] r.toNat.toUInt8)) ∧ w' = w :=
  Any.strings_IndexRune_ascii Tryd.lays152 ⟨#[47, 63, 35]⟩ r w h0 h1

set_option maxHeartbeats 2000000 in
set_option maxRecDepth 100000 in
theorem any_short (s : ByteArray) (w : World) (h8 : s.size ≤ 8) :
    Calls Tryd.prog 41 #[.string s, .string ⟨#[47, 63, 35]⟩] w fun e w' => e = .returned (.int .i64 (Lib.indexAny s.data.toList [47, 63, 35])) ∧ Below w.heap.size w w' := by
  have h8z : decide ((8 : Int) < (s.size : Int)) = false := decide_eq_false (by omega)
  go_enter Tryd.func41, Tryd.ntmps41
  go_wp2_with fail
  refine (use57 _ _).mono ?_
  rintro e w' ⟨rfl, hw⟩
  rw [hw, h8z]
  go_wp2_with fail
  go_loopg [9, 10] s.size (fun g _ _ wx => ∃ i : Nat, i + g = s.size ∧ wx.heap[w.heap.size]? = some (.stringIter s i) ∧ Below w.heap.size w wx ∧ Lib.NoAny s.data.toList [47, 63, 35] i)
  case atStart => exact ⟨0, by omega, World.iter_heap _ _ _, (Below.refl _ _).alloc (Nat.le_refl _) _, Lib.NoAny.zero _ _⟩
  case round =>
    obtain ⟨i, hig, hk, hb, hno⟩ := hrel
    have HN := hide hno
    have HK := hide hk
    have HB := hide hb
    clear hno hb
    by_cases hend : i < s.size
    · obtain ⟨x, hx⟩ : ∃ x : UInt8, s[i]'hend = x := ⟨_, rfl⟩
      have hxl : s.data.toList[i]? = some x := by rw [← hx]; exact Lib.data_getElem? s i hend
      have Hx := hide hxl
      clear hxl
      by_cases hx128 : x.toNat < 128
      · have hnx := fun ty => Lib.run_next_ascii_at (P := Tryd.prog) wr w.heap.size s i ty hk hend (by rw [hx]; exact hx128)
        rw [hx] at hnx
        clear hk hx
        have hb2 := Lib.below_iterAt (unhide HB) (Nat.le_refl _) s (i + 1)
        have hk2 := hide (Lib.iterAt_heap wr w.heap.size s i (i + 1) (unhide HK))
        generalize wr.iterAt w.heap.size s (i + 1) = w2 at *
        have hcon := Lib.contains_iff_indexByte [47, 63, 35] x
        have hback : ((x.toNat : Int)).toNat.toUInt8 = x := by simp
        cases hin : ([47, 63, 35] : List UInt8).contains x
        · rw [hin] at hcon
          have hlt : ¬ ((0 : Int) ≤ Lib.indexByte [47, 63, 35] x) := of_decide_eq_false hcon.symm
          clear hcon
          go_wp2_with fail
          refine (ir_ascii _ _ (by omega) (by omega)).mono ?_
          rintro e w3 ⟨rfl, hw3⟩
          rw [hw3, hback]
          go_wp2_with fail
          go_roundg (s.size - (i + 1))
          case measure => omega
          case rel => exact ⟨i + 1, by omega, unhide hk2, hb2, (unhide HN).succ (unhide Hx) hin⟩
        · rw [hin] at hcon
          have hge : (0 : Int) ≤ Lib.indexByte [47, 63, 35] x := of_decide_eq_true hcon.symm
          clear hcon
          go_wp2_with fail
          refine (ir_ascii _ _ (by omega) (by omega)).mono ?_
          rintro e w3 ⟨rfl, hw3⟩
          rw [hw3, hback]
          go_wp2_with fail
          go_ret
          exact ⟨by rw [Lib.indexAny_hit (unhide HN) (unhide Hx) hin]; rfl, hb2⟩
      · have hxg : (s.get! i) = x := get_eq s i x (unhide Hx)
        have hp := decode_pass s i hend (by rw [hxg]; omega)
        have hhi := (decode_high s i hend (by rw [hx]; omega)).1
        have hnx := fun ty => Lib.run_next_any_at (P := Tryd.prog) wr w.heap.size s i ty hk hend
        clear hk hx hxg
        have hb2 := Lib.below_iterAt (unhide HB) (Nat.le_refl _) s (i + (Utf8.decode s i).2)
        have hk2 := hide (Lib.iterAt_heap wr w.heap.size s i (i + (Utf8.decode s i).2) (unhide HK))
        generalize wr.iterAt w.heap.size s (i + (Utf8.decode s i).2) = w2 at *
        obtain ⟨hp1, hp2, hp3⟩ := hp
        have HP := hide hp3
        clear hp3
        generalize (Utf8.decode s i).2 = n at *
        generalize (Utf8.decode s i).1 = r at *
        go_wp2_with fail
        refine (ir_high _ _ (by omega)).mono ?_
        rintro e w3 ⟨rfl, hb3⟩
        have hsz : w.heap.size < w2.heap.size := (Array.getElem?_eq_some_iff.1 (unhide hk2)).1
        have hk3 := hide ((hb3.block _ hsz).trans (unhide hk2))
        have hb4 := hb2.trans (hb3.mono (by omega))
        clear hb3
        go_wp2_with fail
        go_roundg (s.size - (i + n))
        case measure => omega
        case rel => exact ⟨i + n, by omega, unhide hk3, hb4, noAny_pass (unhide HN) (unhide HP)⟩
    · obtain rfl : i = s.size := by omega
      have hnx := fun ty => Lib.run_next_end_at (P := Tryd.prog) wr w.heap.size s s.size ty hk (by omega)
      clear hk
      go_wp2_with fail
      go_ret
      exact ⟨by rw [Lib.indexAny_none (by rw [← Lib.size_eq]; exact unhide HN)]; rfl, unhide HB⟩

theorem any41 (s : ByteArray) (w : World) (hs : s.size < 4294967281) :
    Calls Tryd.prog 41 #[.string s, .string ⟨#[47, 63, 35]⟩] w fun e w' => e = .returned (.int .i64 (Lib.indexAny s.data.toList [47, 63, 35])) ∧ Below w.heap.size w w' := by
  by_cases h8 : s.size ≤ 8
  · exact any_short s w h8
  · have h116 : (Tryd.prog.info? (Tryd.lays153_ren.t 116)).map (fun i => (i.zero, i.size)) = some (some (.agg (Array.replicate 256 (.bool false))), 256) := by kernel_rfl
    have hac : ∀ (j : Nat) b, (⟨#[47, 63, 35]⟩ : ByteArray).data.toList[j]? = some b → b.toNat < 128 := fun _ b hb =>
      of_decide_eq_true (List.all_eq_true.1 (show ([47, 63, 35] : List UInt8).all (fun b => decide (b.toNat < 128)) = true by decide) b (List.mem_of_getElem? hb))
    refine (Any.strings_IndexAny_long Tryd.lays153 (zero_of_info h116).1 (zero_of_info h116).2 s ⟨#[47, 63, 35]⟩ w (by decide) (by omega) hs (by decide) hac).mono fun e w' ⟨he, hw⟩ => ⟨he, ?_⟩
    rw [hw]
    exact ((Below.refl _ _).alloc (Nat.le_refl _) _).alloc (by simp) _
end Go.Proofs.Qxb6602029aDoor
