/-
  THE WALK of ZZCutHostList: the role's map is made out of the pairs; then cutHostList.
-/
import Derived.Test.Qxb6602029aDoorRole
import Derived.Deep.LoopGhost
import Derived.BigRegion
namespace Go.Proofs.Qxb6602029aDoor
open Go.RowKit Go.Maps Go.WideMaps

/-- The map behind k pairs. -/
def Dk (ks : List ByteArray) (fs : List Bool) : Nat → DataW Unit
  | 0 => .map []
  | k + 1 => (Dk ks fs k).put (.string (ks.getD k ByteArray.empty).data.toList) (.lit (.bool (fs.getD k false)))
theorem makeMap35 (n : Int) (w : World) : (Instr.makeMap 35 (some (.int .i64 n))).run Tryd.prog w = .ok (.map (some w.heap.size)) (w.alloc (.map #[] 0)) := by kernel_rfl
theorem store35 {w : World} {b n : Nat} {D : DataW Unit} (h : Owns w b n D) (hn : n < maxLen) (s : ByteArray) (hs : s.size ≤ maxLen) (f : Bool) :
    ∃ w', (Instr.mapUpdate 35 (.map (some b)) (.string s) (.agg #[.string s, .bool f])).run Tryd.prog w = .ok () w' ∧ Owns w' b (n + 1) (D.put (.string s.data.toList) (.lit (.bool f))) ∧ w.grownBy w' (some b) :=
  World.ownsMap.update (t := 35) (e := 38) h keyed9 Tryd.underlying35 hn (keyOf_string_mk Tryd.underlying9 hs) (RS_mk s f)

set_option maxHeartbeats 2000000 in
set_option maxRecDepth 100000 in
theorem zz_some (name raw : ByteArray) (ks : List ByteArray) (fs : List Bool) (kb ko kc hb ho hc : Nat) (w : World) (res : Value) (hkb : kb < w.heap.size) (hhb : hb < w.heap.size)
    (hkl : ks.length ≤ 1048576) (_hfl : fs.length ≤ 1048576)
    (hks : ∀ i, i < ks.length → w.cell? ⟨kb, ko + i, none⟩ = some (.string (ks.getD i ByteArray.empty)))
    (hfs : ∀ i, i < fs.length → w.cell? ⟨hb, ho + i, none⟩ = some (.bool (fs.getD i false)))
    (hsz : ∀ i, i < ks.length → (ks.getD i ByteArray.empty).size ≤ maxLen)
    (h23 : ∀ (w' : World) (b n : Nat), Below w.heap.size w w' → Owns w' b n (Dk ks fs (min ks.length fs.length)) → Calls Tryd.prog 23 #[.agg #[.string name, .map (some b)], .string raw] w' fun e w'' => e = .returned res ∧ Below w'.heap.size w' w'')
    (hres : ∃ x y z, res = .tuple #[x, y, z]) :
    Calls Tryd.prog 17 #[.string name, .slice (some ⟨kb, ko, none⟩) ks.length kc, .slice (some ⟨hb, ho, none⟩) fs.length hc, .string raw] w fun e w' => e = .returned res ∧ Below w.heap.size w w' := by
  have HK := hide hks
  have HF := hide hfs
  have HZ := hide hsz
  have H23 := hide h23
  have hmm := makeMap35
  obtain ⟨rx, ry, rz, rfl⟩ := hres
  clear hks hfs hsz h23
  go_enter Tryd.func17, Tryd.ntmps17
  go_wp2_with fail
  go_loopg [12] (min ks.length fs.length) (fun g i wx => ∃ k : Nat, k + g = min ks.length fs.length ∧ i = .int .i64 k ∧ Owns wx w.heap.size k (Dk ks fs k) ∧ Below w.heap.size w wx)
  case atStart => exact ⟨0, by omega, rfl, World.ownsMap_made _ _ _ _, (Below.refl _ _).alloc (Nat.le_refl _) _⟩
  case round =>
    obtain ⟨k, hkg, rfl, hown, hbw⟩ := hrel
    by_cases hlt : k < min ks.length fs.length
    · have hk1 : k < ks.length := by omega
      have hk2 : k < fs.length := by omega
      have ck := (hbw.cell (p := ⟨kb, ko + k, none⟩) hkb).trans (unhide HK k hk1)
      have cf := (hbw.cell (p := ⟨hb, ho + k, none⟩) hhb).trans (unhide HF k hk2)
      obtain ⟨w1, hrun, hown1, hg1⟩ := store35 (w := wr.drew) hown (by unfold maxLen; omega) (ks.getD k ByteArray.empty) (unhide HZ k hk1) (fs.getD k false)
      have hD : Owns w1 w.heap.size (k + 1) (Dk ks fs (k + 1)) := hown1
      generalize ks.getD k ByteArray.empty = key at *
      generalize fs.getD k false = flag at *
      have HO := hide hD
      clear hD
      have HG := hide hg1
      have HB := hide hbw
      have HOW := hide hown
      clear hown1 hg1 hbw hown
      go_wp2_with fail
      go_region
      go_wp2_with fail
      go_roundg (min ks.length fs.length - (k + 1))
      case measure => omega
      case rel => exact ⟨k + 1, by omega, by go_num, unhide HO, ((unhide HB).trans (Below.refl _ _).drew).grown (unhide HG) (unhide HB).size (fun j hj => by cases hj; exact Nat.le_refl _)⟩
    · obtain rfl : k = min ks.length fs.length := by omega
      have HOW := hide hown
      have HB := hide hbw
      clear hown hbw
      by_cases hk1 : min ks.length fs.length < ks.length
      · have hk2 : ¬ ((min ks.length fs.length : Nat) : Int) < (fs.length : Int) := by omega
        have hk2' : decide (((min ks.length fs.length : Nat) : Int) < (fs.length : Int)) = false := decide_eq_false hk2
        generalize min ks.length fs.length = m at *
        go_wp2_with fail
        refine (unhide H23 _ _ _ (unhide HB) (unhide HOW)).mono ?_
        rintro e w2 ⟨rfl, hb2⟩
        go_wp2_with fail
        go_ret3
        exact ⟨rfl, (unhide HB).trans (hb2.mono (unhide HB).size)⟩
      · have hk2 : ¬ ((min ks.length fs.length : Nat) : Int) < (ks.length : Int) := by omega
        have hk2' : decide (((min ks.length fs.length : Nat) : Int) < (ks.length : Int)) = false := decide_eq_false hk2
        generalize min ks.length fs.length = m at *
        go_wp2_with fail
        refine (unhide H23 _ _ _ (unhide HB) (unhide HOW)).mono ?_
        rintro e w2 ⟨rfl, hb2⟩
        go_wp2_with fail
        go_ret3
        exact ⟨rfl, (unhide HB).trans (hb2.mono (unhide HB).size)⟩

set_option maxHeartbeats 2000000 in
set_option maxRecDepth 100000 in
theorem zz_none (name raw : ByteArray) (ka ha : Option Addr) (kl kc hl hc : Nat) (w : World) (res : Value) (hm : min kl hl = 0)
    (h23 : ∀ (w' : World) (b n : Nat), Below w.heap.size w w' → Owns w' b n (.map []) → Calls Tryd.prog 23 #[.agg #[.string name, .map (some b)], .string raw] w' fun e w'' => e = .returned res ∧ Below w'.heap.size w' w'')
    (hres : ∃ x y z, res = .tuple #[x, y, z]) :
    Calls Tryd.prog 17 #[.string name, .slice ka kl kc, .slice ha hl hc, .string raw] w fun e w' => e = .returned res ∧ Below w.heap.size w w' := by
  have H23 := hide h23
  have hmm := makeMap35
  obtain ⟨rx, ry, rz, rfl⟩ := hres
  clear h23
  have hb1 := hide ((Below.refl w.heap.size w).alloc (Nat.le_refl _) (.map #[] 0))
  have ho1 := hide (World.ownsMap_made w Tryd.prog 9 RS)
  by_cases h0 : kl = 0
  · subst h0
    go_enter Tryd.func17, Tryd.ntmps17
    go_wp2_with fail
    refine wp_loop_rounds 1 ?_
    rw [rounds_succ]
    go_wp2_with fail
    refine (unhide H23 _ _ _ (unhide hb1) (unhide ho1)).mono ?_
    rintro e w2 ⟨rfl, hb2⟩
    go_wp2_with fail
    go_ret3
    exact ⟨rfl, (unhide hb1).trans (hb2.mono (unhide hb1).size)⟩
  · have h1 : hl = 0 := by omega
    subst h1
    have hk : (0 : Int) < (kl : Int) := by omega
    go_enter Tryd.func17, Tryd.ntmps17
    go_wp2_with fail
    refine wp_loop_rounds 1 ?_
    rw [rounds_succ]
    go_wp2_with fail
    refine (unhide H23 _ _ _ (unhide hb1) (unhide ho1)).mono ?_
    rintro e w2 ⟨rfl, hb2⟩
    go_wp2_with fail
    go_ret3
    exact ⟨rfl, (unhide hb1).trans (hb2.mono (unhide hb1).size)⟩
end Go.Proofs.Qxb6602029aDoor
