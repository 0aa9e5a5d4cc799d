/-
  THE WALK of FnSplitBagItMatchesScanner.
-/
import Derived.Test.Qxb6602032aDoorScan
namespace Go.Proofs.Qxb6602032aDoor
open Go.RowKit Bag

set_option maxHeartbeats 400000 in
theorem zzBytes5 (s : ByteArray) (w : World) (hs : s.size ≤ 1048576) :
    Calls Tryd.prog 5 #[.string s] w fun e w' => e = .returned (.bool true) ∧ w' = w := by
  go_enter Tryd.func5, Tryd.ntmps5
  go_wp2
  go_ret
  exact ⟨rfl, rfl⟩
set_option maxHeartbeats 400000 in
theorem zzBytes5_no (s : ByteArray) (w : World) (hs : 1048576 < s.size) :
    Calls Tryd.prog 5 #[.string s] w fun e w' => e = .returned (.bool false) ∧ w' = w := by
  have h : (1048576 : Int) < s.size := by omega
  go_enter Tryd.func5, Tryd.ntmps5
  go_wp2
  go_ret
  exact ⟨rfl, rfl⟩
theorem map_inj : ∀ {xs ys : List ByteArray}, xs.map (·.data.toList) = ys.map (·.data.toList) → xs = ys
  | [], [], _ => rfl
  | [], _ :: _, h => by simp at h
  | _ :: _, [], h => by simp at h
  | x :: xs, y :: ys, h => by
    simp only [List.map_cons, List.cons.injEq] at h
    rw [ba_ext h.1, map_inj h.2]
set_option maxHeartbeats 400000 in
theorem law3_no (s : ByteArray) (w : World) (hs : 1048576 < s.size) :
    Calls Tryd.prog 3 #[.string s] w fun e w' => e = .returned (.bool true) ∧ Below w.heap.size w w' := by
  go_enter Tryd.func3, Tryd.ntmps3
  go_wp2_with fail
  refine (zzBytes5_no s _ hs).mono ?_
  rintro e w' ⟨rfl, rfl⟩
  go_wp2_with fail
  go_ret
  exact ⟨rfl, Below.refl _ _⟩
set_option maxHeartbeats 1000000 in
theorem law3_yes (s : ByteArray) (w : World) (hs : s.size ≤ 1048576) (hm : Mx w) :
    Calls Tryd.prog 3 #[.string s] w fun e w' => e = .returned (.bool true) ∧ Below w.heap.size w w' := by
  have hle := bag_le s
  have H7 := hide (split7 s w (by omega) hm)
  have H8 := hide fun w => scan8 s w hs
  have HD := hide (bag_data s)
  clear hm
  generalize bagB s = L at *
  go_enter Tryd.func3, Tryd.ntmps3
  go_wp2_with fail
  refine (zzBytes5 s _ hs).mono ?_
  rintro e w' ⟨rfl, rfl⟩
  go_wp2_with fail
  refine (unhide H7).mono ?_
  rintro e w1 ⟨a, rfl, hsrc, hb1⟩
  have HS1 := hide hsrc
  have HB1 := hide hb1
  clear hsrc hb1
  go_wp2_with fail
  refine (unhide H8 w1).mono ?_
  rintro e w2 ⟨b, c, xs, rfl, hx, hsrc2, hb2⟩
  obtain rfl : xs = L := map_inj (hx.trans (unhide HD).symm)
  have HS2 := hide hsrc2
  have HB2 := hide hb2
  clear hx hsrc2 hb2
  go_wp2_with fail
  refine (same6 xs (some a) (some b) _ _ w2 (by omega) ((unhide HS1).below (unhide HB2)) (unhide HS2)).mono ?_
  rintro e w3 ⟨rfl, hb3⟩
  have HB3 := hide (((unhide HB1).trans ((unhide HB2).mono (unhide HB1).size)).trans (hb3.mono (Nat.le_trans (unhide HB1).size (unhide HB2).size)))
  clear hb3
  go_wp2_with fail
  go_ret
  exact ⟨rfl, unhide HB3⟩
theorem law3 (s : ByteArray) (w : World) (hm : Mx w) : Calls Tryd.prog 3 #[.string s] w fun e w' => e = .returned (.bool true) ∧ Below w.heap.size w w' := by
  by_cases h : s.size ≤ 1048576
  · exact law3_yes s w h hm
  · exact law3_no s w (by omega)
end Go.Proofs.Qxb6602032aDoor
