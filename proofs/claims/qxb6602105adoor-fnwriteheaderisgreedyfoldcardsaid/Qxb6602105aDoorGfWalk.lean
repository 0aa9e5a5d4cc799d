/-
  THE WALK of zzIsGreedyFold at what writeHeader writes.
-/
import Derived.Test.Qxb6602105aDoorGfPlain
namespace Go.Proofs.Qxb6602105aDoor
open Go.RowKit

def bz (l : List UInt8) (k : Nat) : Int := ((l.getD k 0).toNat : Int)
theorem bz_is {l : List UInt8} {k : Nat} {x : UInt8} (h : l.getD k 0 = x) : bz l k = (x.toNat : Int) := by unfold bz; rw [h]
theorem bz_ne {l : List UInt8} {k : Nat} {x : UInt8} (h : l.getD k 0 ≠ x) : (bz l k != (x.toNat : Int)) = true := by
  unfold bz
  have : ((l.getD k 0).toNat : Int) ≠ (x.toNat : Int) := fun e => h (UInt8.toNat_inj.1 (by omega))
  simpa using this
theorem at_get {w : World} {g : Nat} {l : List UInt8} (h : At8 w g l) (k : Nat) (hk : k < l.length) : w.cell? ⟨g, k, none⟩ = some (.int .u8 (bz l k)) := by
  rw [h k hk]
  unfold bz
  simp [hk]
theorem sb22 (value : ByteArray) (j : Nat) (w : World) (hv : value.size ≤ 262144) (hj : j < (Sx value).length) :
    Calls Tryd.prog 22 #[.string value, .int .i64 (j : Int)] w fun e w' => e = .returned (.int .u8 (bz (Sx value) j)) ∧ w' = w := by
  rw [Sx_len] at hj
  cases j with
  | zero =>
    have e : bz (Sx value) 0 = 32 := rfl
    rw [e]
    clear e
    go_enter Tryd.func22, Tryd.ntmps22
    go_wp2
    go_ret
    exact ⟨rfl, rfl⟩
  | succ i =>
    have hi : i < value.size := by omega
    have e : bz (Sx value) (i + 1) = (value[i].toNat : Int) := by
      unfold bz Sx
      rw [List.getD_cons_succ, List.getD_eq_getElem?_getD, List.getElem?_eq_getElem (by rw [← Lib.size_eq]; exact hi)]
      rfl
    rw [e]
    clear e
    have h0 : (((i + 1 : Nat) : Int) == 0) = false := beq_eq_false_iff_ne.2 (by omega)
    have h1 : ((i + 1 : Nat) : Int) - 1 = (i : Int) := by omega
    go_enter Tryd.func22, Tryd.ntmps22
    go_wp2
    go_ret
    exact ⟨rfl, rfl⟩
theorem sb22z (value : ByteArray) (z : Int) (j : Nat) (w : World) (hz : z = (j : Int)) (hv : value.size ≤ 262144) (hj : j < (Sx value).length) :
    Calls Tryd.prog 22 #[.string value, .int .i64 z] w fun e w' => e = .returned (.int .u8 (bz (Sx value) j)) ∧ w' = w := by
  subst hz
  exact sb22 value j w hv hj

set_option maxRecDepth 100000 in
set_option maxHeartbeats 16000000 in
theorem fold9 (pre : List UInt8) (pa : Option Addr) (pc : Nat) (name value : ByteArray) (g cap : Nat) (w : World) (hp : PreAt w pa pre) (hat : At8 w g (outL pre name value)) (hg : g < w.heap.size)
    (hl : pre.length ≤ 262144) (hn : name.size ≤ 262144) (hv : value.size ≤ 262144) :
    Calls Tryd.prog 9 #[.slice pa pre.length pc, .string name, .string value, .slice (some ⟨g, 0, none⟩) (outL pre name value).length cap] w (Ok w) := by
  have hlen := out_len pre name value
  have HOP := hidW (out_pre pre name value)
  have HON := hidW (out_name pre name value)
  have HOC := hidW (out_colon pre name value)
  have HOT := hidW (out_tail pre name value)
  have HG := hidW (ginv_start pre name value hn)
  have hSl := Sx_len value
  generalize outL pre name value = O at *
  have HA := hidW hat
  have HP := hidW hp
  clear hat hp
  have d1 : decide ((O.length : Int) < (pre.length : Int) + (name.size : Int) + 1 + (value.size : Int) + 1 + 2) = false := decide_eq_false (by omega)
  go_enter Tryd.func9, Tryd.ntmps9
  go_wp2_with fail
  go_loopg [10] pre.length (fun gk i wx => ∃ k : Nat, k + gk = pre.length ∧ i = .int .i64 k ∧ Below w.heap.size w wx)
  case atStart => exact ⟨0, by omega, rfl, Below.refl _ _⟩
  case round =>
    obtain ⟨k, hkg, rfl, hbw⟩ := hrel
    by_cases hlt : k < pre.length
    · rcases unhidW HP with ⟨_, rfl⟩ | ⟨g0, rfl, hg0, hp⟩
      · simp at hlt
      have c1 := at_get ((unhidW HA).below hbw hg) k (by omega)
      rw [bz_is (unhidW HOP k hlt)] at c1
      have c2 := (hbw.cell (p := ⟨g0, k, none⟩) hg0).trans (hp k hlt)
      generalize (pre[k].toNat : Int) = x at *
      have HBW := hidW hbw
      clear hbw hp
      go_wp2_with fail
      go_quiet (fail)
      go_wp2_with fail
      go_roundg (pre.length - (k + 1))
      case measure => omega
      case rel => exact ⟨k + 1, by omega, by go_num, below_drewN (unhidW HBW) _⟩
    obtain rfl : k = pre.length := by omega
    clear hlt HP HOP
    have HBW := hidW hbw
    clear hbw
    go_wp2_with fail
    go_loopg [11, 12] name.size (fun gk kk i wx => ∃ k : Nat, k + gk = name.size ∧ i = .int .i64 k ∧ kk = .int .i64 (pre.length + k) ∧ Below w.heap.size w wx)
    case atStart => exact ⟨0, by omega, rfl, by go_num, unhidW HBW⟩
    case round =>
      clear HBW
      obtain ⟨k, hkg, rfl, rfl, hbw⟩ := hrel
      by_cases hlt : k < name.size
      · have c1 := at_get ((unhidW HA).below hbw hg) (pre.length + k) (by omega)
        rw [bz_is (unhidW HON k hlt)] at c1
        have HBW := hidW hbw
        clear hbw
        go_wp2_with fail
        go_quiet (fail)
        go_wp2_with fail
        go_roundg (name.size - (k + 1))
        case measure => omega
        case rel => exact ⟨k + 1, by omega, by go_num, by go_num, below_drewN (unhidW HBW) _⟩
      obtain rfl : k = name.size := by omega
      clear hlt HON
      have c1 := at_get ((unhidW HA).below hbw hg) (pre.length + name.size) (by omega)
      rw [bz_is (unhidW HOC)] at c1
      have c2 := at_get ((unhidW HA).below hbw hg) (O.length - 2) (by omega)
      rw [bz_is (unhidW HOT).1] at c2
      have c3 := at_get ((unhidW HA).below hbw hg) (O.length - 2 + 1) (by omega)
      rw [bz_is (unhidW HOT).2] at c3
      have hend : (O.length : Int) - 2 = ((O.length - 2 : Nat) : Int) := by omega
      obtain ⟨en, hen⟩ : ∃ en, O.length - 2 = en := ⟨_, rfl⟩
      have hOe : O.length = en + 2 := by omega
      rw [hen] at c2 c3 hend
      have hO1 : O.length ≤ en + 2 := by omega
      have hO2 : en + 2 ≤ O.length := by omega
      clear hOe
      have HBW := hidW hbw
      clear hbw HOT HOC hen
      go_wp2_with fail
      clear hend
      go_loopg [11, 14, 15, 17] (value.size + 1) (fun gk kk LL ii jj wx => ∃ (k L it j : Nat) (ws : List (List UInt8)), j + gk = value.size + 1 ∧ kk = .int .i64 k ∧ LL = .int .i64 L ∧ ii = .int .i64 it ∧ jj = .int .i64 j ∧ Hid (GInv O (Sx value) k L it j ws) ∧ Below w.heap.size w wx)
      case atStart => exact ⟨pre.length + name.size + 1, name.size + 1, 1, 0, spl [] value.data.toList, by omega, by go_num, by go_num, by go_num, by go_num, HG, unhidW HBW⟩
      case round =>
        clear HBW HG c1 c2 c3
        obtain ⟨k, L, it, j, ws, hjg, rfl, rfl, rfl, rfl, HGI, hbw⟩ := hrel
        have HBj := hidW hbw
        clear hbw
        have hit := (unhidW HGI).itj
        have hLb := (unhidW HGI).Lb
        by_cases hlt : j < value.size + 1
        · obtain ⟨wd, r, rfl⟩ := ginv_word (unhidW HGI) (by omega)
          have hs := (ginv_s (unhidW HGI)).1
          have hjb : j + 1 + wd.length ≤ value.size + 1 := by omega
          clear hs
          have hltd : (j : Int) < (value.size : Int) + 1 := by omega
          go_wp2_with fail
          go_loopg [18] wd.length (fun gk i wx => ∃ t : Nat, t + gk = wd.length ∧ i = .int .i64 (j + 1 + t) ∧ Below w.heap.size w wx)
          case atStart => exact ⟨0, by omega, by go_num, unhidW HBj⟩
          case round =>
            clear HBj
            obtain ⟨t, htg, rfl, hbt⟩ := hrel
            have HBj := hidW hbt
            clear hbt
            by_cases htl : t < wd.length
            · have hne := bz_ne (ginv_in (unhidW HGI) t htl)
              have HSB := hidW fun w' => sb22z value ((j : Int) + 1 + (t : Int)) (j + 1 + t) w' (by omega) hv (by omega)
              generalize bz (Sx value) (j + 1 + t) = z at *
              have hjt : (j : Int) + 1 + (t : Int) < (value.size : Int) + 1 := by omega
              have hne' : (z != 32) = true := hne
              clear hne
              go_wp2_with (go_at_call 22; refine (unhidW HSB _).mono ?_; rintro e w' ⟨rfl, rfl⟩)
              go_roundg (wd.length - (t + 1))
              case measure => omega
              case rel => exact ⟨t + 1, by omega, by go_num, unhidW HBj⟩
            obtain rfl : t = wd.length := by omega
            clear htl
            by_cases hse : j + 1 + wd.length < value.size + 1
            · have hst := bz_is (ginv_stop (unhidW HGI) (by omega))
              have HSB := hidW fun w' => sb22z value ((j : Int) + 1 + (wd.length : Int)) (j + 1 + wd.length) w' (by omega) hv (by omega)
              rw [hst] at HSB
              clear hst
              have hjt : (j : Int) + 1 + (wd.length : Int) < (value.size : Int) + 1 := by omega
              have hseg : (j : Int) + 1 + (wd.length : Int) - (j : Int) = 1 + (wd.length : Int) := by omega
              by_cases hf : 78 < L + 1 + wd.length
              · by_cases h2i : 2 ≤ it
                · have hF := ginv_fold (unhidW HGI) hf
                  have c0 := at_get ((unhidW HA).below (unhidW HBj) hg) k (by omega)
                  rw [bz_is hF.2.1] at c0
                  have c1 := at_get ((unhidW HA).below (unhidW HBj) hg) (k + 1) (by omega)
                  rw [bz_is hF.2.2.1] at c1
                  have f1 : (k : Int) < (en : Int) := by omega
                  have f2 : decide ((en : Int) ≤ (k : Int) + 1) = false := decide_eq_false (by omega)
                  have f3 : decide ((L : Int) + ((1 + wd.length : Nat) : Int) ≤ 78) = false := decide_eq_false (by omega)
                  have f3' : decide ((L : Int) + (1 + (wd.length : Int)) ≤ 78) = false := decide_eq_false (by omega)
                  have f4 : (2 : Int) ≤ (it : Int) := by omega
                  have f5 : decide ((78 : Int) < (L : Int)) = false := decide_eq_false (by have := (unhidW HGI).two h2i; omega)
                  have f6 : decide ((en : Int) < (k : Int) + 2 + ((1 + wd.length : Nat) : Int)) = false := decide_eq_false (by omega)
                  have f6' : decide ((en : Int) < (k : Int) + 2 + (1 + (wd.length : Int))) = false := decide_eq_false (by omega)
                  have HCopy := hidW hF.2.2.2.1
                  have HNext := hidW hF.2.2.2.2
                  have hkb := hF.1
                  clear hF
                  go_wp2_with (go_at_call 22; refine (unhidW HSB _).mono ?_; rintro e w' ⟨rfl, rfl⟩)
                  go_loopg [20] (1 + wd.length) (fun gk i wx => ∃ t : Nat, t + gk = 1 + wd.length ∧ i = .int .i64 t ∧ Below w.heap.size w wx)
                  case atStart => exact ⟨0, by omega, rfl, unhidW HBj⟩
                  case round =>
                    obtain ⟨t, htg, rfl, hbt⟩ := hrel
                    by_cases htl : t < 1 + wd.length
                    · have ct := at_get ((unhidW HA).below hbt hg) (k + 2 + t) (by omega)
                      rw [bz_is (unhidW HCopy t htl)] at ct
                      have hsb := fun w' => sb22z value ((j : Int) + (t : Int)) (j + t) w' (by omega) hv (by omega)
                      have hz : bz (Sx value) (j + t) = (((Sx value).getD (j + t) 0).toNat : Int) := rfl
                      rw [← hz] at ct
                      clear hz
                      generalize bz (Sx value) (j + t) = z at *
                      have HSB := hidW hsb
                      have HBt := hidW hbt
                      clear hsb hbt
                      go_wp2_with fail
                      go_quiet ((go_at_call 22; exact Calls.quiet_of_same (unhidW HSB _)))
                      go_wp2_with fail
                      go_roundg (wd.length - t)
                      case measure => omega
                      case rel => exact ⟨t + 1, by omega, by go_num, below_drewN (unhidW HBt) _⟩
                    · obtain rfl : t = 1 + wd.length := by omega
                      have HBt := hidW hbt
                      clear hbt htl
                      go_wp2_with fail
                      go_roundg ((Sx value).length - (j + 1 + wd.length))
                      case measure => omega
                      case rel => exact ⟨k + 2 + (1 + wd.length), 1 + wd.length, 1, j + 1 + wd.length, r, by omega, by go_num, by go_num, by go_num, by go_num, HNext, unhidW HBt⟩
                · have hF := ginv_fold (unhidW HGI) hf
                  have c0 := at_get ((unhidW HA).below (unhidW HBj) hg) k (by omega)
                  rw [bz_is hF.2.1] at c0
                  have c1 := at_get ((unhidW HA).below (unhidW HBj) hg) (k + 1) (by omega)
                  rw [bz_is hF.2.2.1] at c1
                  have f1 : (k : Int) < (en : Int) := by omega
                  have f2 : decide ((en : Int) ≤ (k : Int) + 1) = false := decide_eq_false (by omega)
                  have f3 : decide ((L : Int) + ((1 + wd.length : Nat) : Int) ≤ 78) = false := decide_eq_false (by omega)
                  have f3' : decide ((L : Int) + (1 + (wd.length : Int)) ≤ 78) = false := decide_eq_false (by omega)
                  have f4 : decide ((2 : Int) ≤ (it : Int)) = false := decide_eq_false (by omega)

                  have f6 : decide ((en : Int) < (k : Int) + 2 + ((1 + wd.length : Nat) : Int)) = false := decide_eq_false (by omega)
                  have f6' : decide ((en : Int) < (k : Int) + 2 + (1 + (wd.length : Int))) = false := decide_eq_false (by omega)
                  have HCopy := hidW hF.2.2.2.1
                  have HNext := hidW hF.2.2.2.2
                  have hkb := hF.1
                  clear hF
                  go_wp2_with (go_at_call 22; refine (unhidW HSB _).mono ?_; rintro e w' ⟨rfl, rfl⟩)
                  go_loopg [20] (1 + wd.length) (fun gk i wx => ∃ t : Nat, t + gk = 1 + wd.length ∧ i = .int .i64 t ∧ Below w.heap.size w wx)
                  case atStart => exact ⟨0, by omega, rfl, unhidW HBj⟩
                  case round =>
                    obtain ⟨t, htg, rfl, hbt⟩ := hrel
                    by_cases htl : t < 1 + wd.length
                    · have ct := at_get ((unhidW HA).below hbt hg) (k + 2 + t) (by omega)
                      rw [bz_is (unhidW HCopy t htl)] at ct
                      have hsb := fun w' => sb22z value ((j : Int) + (t : Int)) (j + t) w' (by omega) hv (by omega)
                      have hz : bz (Sx value) (j + t) = (((Sx value).getD (j + t) 0).toNat : Int) := rfl
                      rw [← hz] at ct
                      clear hz
                      generalize bz (Sx value) (j + t) = z at *
                      have HSB := hidW hsb
                      have HBt := hidW hbt
                      clear hsb hbt
                      go_wp2_with fail
                      go_quiet ((go_at_call 22; exact Calls.quiet_of_same (unhidW HSB _)))
                      go_wp2_with fail
                      go_roundg (wd.length - t)
                      case measure => omega
                      case rel => exact ⟨t + 1, by omega, by go_num, below_drewN (unhidW HBt) _⟩
                    · obtain rfl : t = 1 + wd.length := by omega
                      have HBt := hidW hbt
                      clear hbt htl
                      go_wp2_with fail
                      go_roundg ((Sx value).length - (j + 1 + wd.length))
                      case measure => omega
                      case rel => exact ⟨k + 2 + (1 + wd.length), 1 + wd.length, 1, j + 1 + wd.length, r, by omega, by go_num, by go_num, by go_num, by go_num, HNext, unhidW HBt⟩
              · have hF := ginv_stay (unhidW HGI) hf
                have c0 := at_get ((unhidW HA).below (unhidW HBj) hg) k (by omega)
                rw [bz_is hF.2.1] at c0
                have f1 : (k : Int) < (en : Int) := by omega
                have f6 : decide ((en : Int) < (k : Int) + ((1 + wd.length : Nat) : Int)) = false := decide_eq_false (by omega)
                have f6' : decide ((en : Int) < (k : Int) + (1 + (wd.length : Int))) = false := decide_eq_false (by omega)
                have HCopy := hidW hF.2.2.1
                have HNext := hidW hF.2.2.2
                have hkb := hF.1
                clear hF
                go_wp2_with (go_at_call 22; refine (unhidW HSB _).mono ?_; rintro e w' ⟨rfl, rfl⟩)
                go_loopg [20] (1 + wd.length) (fun gk i wx => ∃ t : Nat, t + gk = 1 + wd.length ∧ i = .int .i64 t ∧ Below w.heap.size w wx)
                case atStart => exact ⟨0, by omega, rfl, unhidW HBj⟩
                case round =>
                  obtain ⟨t, htg, rfl, hbt⟩ := hrel
                  by_cases htl : t < 1 + wd.length
                  · have ct := at_get ((unhidW HA).below hbt hg) (k + t) (by omega)
                    rw [bz_is (unhidW HCopy t htl)] at ct
                    have hsb := fun w' => sb22z value ((j : Int) + (t : Int)) (j + t) w' (by omega) hv (by omega)
                    have hz : bz (Sx value) (j + t) = (((Sx value).getD (j + t) 0).toNat : Int) := rfl
                    rw [← hz] at ct
                    clear hz
                    generalize bz (Sx value) (j + t) = z at *
                    have HSB := hidW hsb
                    have HBt := hidW hbt
                    clear hsb hbt
                    go_wp2_with fail
                    go_quiet ((go_at_call 22; exact Calls.quiet_of_same (unhidW HSB _)))
                    go_wp2_with fail
                    go_roundg (wd.length - t)
                    case measure => omega
                    case rel => exact ⟨t + 1, by omega, by go_num, below_drewN (unhidW HBt) _⟩
                  · obtain rfl : t = 1 + wd.length := by omega
                    have HBt := hidW hbt
                    clear hbt htl
                    go_wp2_with fail
                    go_roundg ((Sx value).length - (j + 1 + wd.length))
                    case measure => omega
                    case rel => exact ⟨k + (1 + wd.length), L + (1 + wd.length), it + 1, j + 1 + wd.length, r, by omega, by go_num, by go_num, by go_num, by go_num, HNext, unhidW HBt⟩
            · have hse' : decide ((j : Int) + 1 + (wd.length : Int) < (value.size : Int) + 1) = false := decide_eq_false (by omega)
              have hseg : (j : Int) + 1 + (wd.length : Int) - (j : Int) = 1 + (wd.length : Int) := by omega
              by_cases hf : 78 < L + 1 + wd.length
              · by_cases h2i : 2 ≤ it
                · have hF := ginv_fold (unhidW HGI) hf
                  have c0 := at_get ((unhidW HA).below (unhidW HBj) hg) k (by omega)
                  rw [bz_is hF.2.1] at c0
                  have c1 := at_get ((unhidW HA).below (unhidW HBj) hg) (k + 1) (by omega)
                  rw [bz_is hF.2.2.1] at c1
                  have f1 : (k : Int) < (en : Int) := by omega
                  have f2 : decide ((en : Int) ≤ (k : Int) + 1) = false := decide_eq_false (by omega)
                  have f3 : decide ((L : Int) + ((1 + wd.length : Nat) : Int) ≤ 78) = false := decide_eq_false (by omega)
                  have f3' : decide ((L : Int) + (1 + (wd.length : Int)) ≤ 78) = false := decide_eq_false (by omega)
                  have f4 : (2 : Int) ≤ (it : Int) := by omega
                  have f5 : decide ((78 : Int) < (L : Int)) = false := decide_eq_false (by have := (unhidW HGI).two h2i; omega)
                  have f6 : decide ((en : Int) < (k : Int) + 2 + ((1 + wd.length : Nat) : Int)) = false := decide_eq_false (by omega)
                  have f6' : decide ((en : Int) < (k : Int) + 2 + (1 + (wd.length : Int))) = false := decide_eq_false (by omega)
                  have HCopy := hidW hF.2.2.2.1
                  have HNext := hidW hF.2.2.2.2
                  have hkb := hF.1
                  clear hF
                  go_wp2_with fail
                  go_loopg [20] (1 + wd.length) (fun gk i wx => ∃ t : Nat, t + gk = 1 + wd.length ∧ i = .int .i64 t ∧ Below w.heap.size w wx)
                  case atStart => exact ⟨0, by omega, rfl, unhidW HBj⟩
                  case round =>
                    obtain ⟨t, htg, rfl, hbt⟩ := hrel
                    by_cases htl : t < 1 + wd.length
                    · have ct := at_get ((unhidW HA).below hbt hg) (k + 2 + t) (by omega)
                      rw [bz_is (unhidW HCopy t htl)] at ct
                      have hsb := fun w' => sb22z value ((j : Int) + (t : Int)) (j + t) w' (by omega) hv (by omega)
                      have hz : bz (Sx value) (j + t) = (((Sx value).getD (j + t) 0).toNat : Int) := rfl
                      rw [← hz] at ct
                      clear hz
                      generalize bz (Sx value) (j + t) = z at *
                      have HSB := hidW hsb
                      have HBt := hidW hbt
                      clear hsb hbt
                      go_wp2_with fail
                      go_quiet ((go_at_call 22; exact Calls.quiet_of_same (unhidW HSB _)))
                      go_wp2_with fail
                      go_roundg (wd.length - t)
                      case measure => omega
                      case rel => exact ⟨t + 1, by omega, by go_num, below_drewN (unhidW HBt) _⟩
                    · obtain rfl : t = 1 + wd.length := by omega
                      have HBt := hidW hbt
                      clear hbt htl
                      go_wp2_with fail
                      go_roundg ((Sx value).length - (j + 1 + wd.length))
                      case measure => omega
                      case rel => exact ⟨k + 2 + (1 + wd.length), 1 + wd.length, 1, j + 1 + wd.length, r, by omega, by go_num, by go_num, by go_num, by go_num, HNext, unhidW HBt⟩
                · have hF := ginv_fold (unhidW HGI) hf
                  have c0 := at_get ((unhidW HA).below (unhidW HBj) hg) k (by omega)
                  rw [bz_is hF.2.1] at c0
                  have c1 := at_get ((unhidW HA).below (unhidW HBj) hg) (k + 1) (by omega)
                  rw [bz_is hF.2.2.1] at c1
                  have f1 : (k : Int) < (en : Int) := by omega
                  have f2 : decide ((en : Int) ≤ (k : Int) + 1) = false := decide_eq_false (by omega)
                  have f3 : decide ((L : Int) + ((1 + wd.length : Nat) : Int) ≤ 78) = false := decide_eq_false (by omega)
                  have f3' : decide ((L : Int) + (1 + (wd.length : Int)) ≤ 78) = false := decide_eq_false (by omega)
                  have f4 : decide ((2 : Int) ≤ (it : Int)) = false := decide_eq_false (by omega)

                  have f6 : decide ((en : Int) < (k : Int) + 2 + ((1 + wd.length : Nat) : Int)) = false := decide_eq_false (by omega)
                  have f6' : decide ((en : Int) < (k : Int) + 2 + (1 + (wd.length : Int))) = false := decide_eq_false (by omega)
                  have HCopy := hidW hF.2.2.2.1
                  have HNext := hidW hF.2.2.2.2
                  have hkb := hF.1
                  clear hF
                  go_wp2_with fail
                  go_loopg [20] (1 + wd.length) (fun gk i wx => ∃ t : Nat, t + gk = 1 + wd.length ∧ i = .int .i64 t ∧ Below w.heap.size w wx)
                  case atStart => exact ⟨0, by omega, rfl, unhidW HBj⟩
                  case round =>
                    obtain ⟨t, htg, rfl, hbt⟩ := hrel
                    by_cases htl : t < 1 + wd.length
                    · have ct := at_get ((unhidW HA).below hbt hg) (k + 2 + t) (by omega)
                      rw [bz_is (unhidW HCopy t htl)] at ct
                      have hsb := fun w' => sb22z value ((j : Int) + (t : Int)) (j + t) w' (by omega) hv (by omega)
                      have hz : bz (Sx value) (j + t) = (((Sx value).getD (j + t) 0).toNat : Int) := rfl
                      rw [← hz] at ct
                      clear hz
                      generalize bz (Sx value) (j + t) = z at *
                      have HSB := hidW hsb
                      have HBt := hidW hbt
                      clear hsb hbt
                      go_wp2_with fail
                      go_quiet ((go_at_call 22; exact Calls.quiet_of_same (unhidW HSB _)))
                      go_wp2_with fail
                      go_roundg (wd.length - t)
                      case measure => omega
                      case rel => exact ⟨t + 1, by omega, by go_num, below_drewN (unhidW HBt) _⟩
                    · obtain rfl : t = 1 + wd.length := by omega
                      have HBt := hidW hbt
                      clear hbt htl
                      go_wp2_with fail
                      go_roundg ((Sx value).length - (j + 1 + wd.length))
                      case measure => omega
                      case rel => exact ⟨k + 2 + (1 + wd.length), 1 + wd.length, 1, j + 1 + wd.length, r, by omega, by go_num, by go_num, by go_num, by go_num, HNext, unhidW HBt⟩
              · have hF := ginv_stay (unhidW HGI) hf
                have c0 := at_get ((unhidW HA).below (unhidW HBj) hg) k (by omega)
                rw [bz_is hF.2.1] at c0
                have f1 : (k : Int) < (en : Int) := by omega
                have f6 : decide ((en : Int) < (k : Int) + ((1 + wd.length : Nat) : Int)) = false := decide_eq_false (by omega)
                have f6' : decide ((en : Int) < (k : Int) + (1 + (wd.length : Int))) = false := decide_eq_false (by omega)
                have HCopy := hidW hF.2.2.1
                have HNext := hidW hF.2.2.2
                have hkb := hF.1
                clear hF
                go_wp2_with fail
                go_loopg [20] (1 + wd.length) (fun gk i wx => ∃ t : Nat, t + gk = 1 + wd.length ∧ i = .int .i64 t ∧ Below w.heap.size w wx)
                case atStart => exact ⟨0, by omega, rfl, unhidW HBj⟩
                case round =>
                  obtain ⟨t, htg, rfl, hbt⟩ := hrel
                  by_cases htl : t < 1 + wd.length
                  · have ct := at_get ((unhidW HA).below hbt hg) (k + t) (by omega)
                    rw [bz_is (unhidW HCopy t htl)] at ct
                    have hsb := fun w' => sb22z value ((j : Int) + (t : Int)) (j + t) w' (by omega) hv (by omega)
                    have hz : bz (Sx value) (j + t) = (((Sx value).getD (j + t) 0).toNat : Int) := rfl
                    rw [← hz] at ct
                    clear hz
                    generalize bz (Sx value) (j + t) = z at *
                    have HSB := hidW hsb
                    have HBt := hidW hbt
                    clear hsb hbt
                    go_wp2_with fail
                    go_quiet ((go_at_call 22; exact Calls.quiet_of_same (unhidW HSB _)))
                    go_wp2_with fail
                    go_roundg (wd.length - t)
                    case measure => omega
                    case rel => exact ⟨t + 1, by omega, by go_num, below_drewN (unhidW HBt) _⟩
                  · obtain rfl : t = 1 + wd.length := by omega
                    have HBt := hidW hbt
                    clear hbt htl
                    go_wp2_with fail
                    go_roundg ((Sx value).length - (j + 1 + wd.length))
                    case measure => omega
                    case rel => exact ⟨k + (1 + wd.length), L + (1 + wd.length), it + 1, j + 1 + wd.length, r, by omega, by go_num, by go_num, by go_num, by go_num, HNext, unhidW HBt⟩
        · obtain rfl : j = value.size + 1 := by omega
          have hk : k + 2 = O.length := by
            have := unhidW HGI
            rw [← hSl] at this
            exact ginv_end this
          obtain rfl : k = en := by omega
          have hne : ((k : Int) != (k : Int)) = false := by simp
          by_cases h2i : 2 ≤ it
          · have f4 : (2 : Int) ≤ (it : Int) := by omega
            have f5 : decide ((78 : Int) < (L : Int)) = false := decide_eq_false (by have := (unhidW HGI).two h2i; omega)
            go_wp2_with fail
            go_ret
            exact ⟨rfl, unhidW HBj⟩
          · have f4 : decide ((2 : Int) ≤ (it : Int)) = false := decide_eq_false (by omega)
            go_wp2_with fail
            go_ret
            exact ⟨rfl, unhidW HBj⟩
end Go.Proofs.Qxb6602105aDoor
