/- spec.Number: a number that it gives is the value of the text. -/
import Derived.Test.YtpcmiaablanmeaaGreatDoorNum
import Derived.Deep.Cut
import Derived.Deep.CutBlock
import Derived.Deep.CutRange
import Derived.Deep.DeepCutAuto
import Derived.Lib.ItoaWalk
namespace Go.Proofs.YtpcmiaablanmeaaGreatDoor
open Go.RowKit

theorem tdiv_lt (V D base : Nat) (hD : D ≤ 9223372036854775808) (hb : 0 < base) : -(V : Int) < (-9223372036854775808 + (D : Int)).tdiv base ↔ 9223372036854775808 < V * base + D := by
  have e : (-9223372036854775808 + (D : Int)).tdiv base = -(((9223372036854775808 - D : Nat) / base : Nat) : Int) := by
    have h1 : -9223372036854775808 + (D : Int) = -((9223372036854775808 - D : Nat) : Int) := by omega
    rw [h1, Int.neg_tdiv]
    rfl
  rw [e]
  have h2 : -(V : Int) < -(((9223372036854775808 - D) / base : Nat) : Int) ↔ (9223372036854775808 - D) / base < V := by omega
  rw [h2, Nat.div_lt_iff_lt_mul hb]
  omega

theorem digits_next {base k : Nat} {u : ByteArray} (hlt : k < u.size) (h : ∀ j, j < k → ∀ hj : j < u.size, digN u[j].toNat < base) (h1 : digN u[k].toNat < base) : ∀ j, j < k + 1 → ∀ hj : j < u.size, digN u[j].toNat < base := fun j hj hjs => by
  by_cases e : j = k
  · subst e; exact h1
  · exact h j (by omega) hjs

theorem tail_of {base : Nat} {u : ByteArray} (hle : valN base u u.size ≤ 9223372036854775808) (h : ∀ j, j < u.size → ∀ hj : j < u.size, digN u[j].toNat < base) (h1 : 0 < u.size) : Tail base u (valN base u u.size) :=
  ⟨fun k hk => h k hk hk, rfl, hle, h1⟩

def NumPost (s : ByteArray) (w : World) (e : Ending) (w' : World) : Prop := ∃ (n : Int) (ok said : Bool), e = .returned (.tuple #[.int .i64 n, .bool ok, .bool said]) ∧ (ok = true → NumOk s n ∧ -9223372036854775808 ≤ n ∧ n ≤ 9223372036854775807) ∧ w = w'

set_option maxHeartbeats 1000000 in
set_option maxRecDepth 100000 in
theorem number_any (s : ByteArray) (w : World) (hs : s.size ≤ 9223372036854775807) :
    Calls Tryz.prog 54 #[.string s] w (NumPost s w) := by
  go_enter Tryz.func54, Tryz.ntmps54
  go_upto_block 0 with fail
  go_cut [2, 5] from 10 to 19 (fun c2 _ w1 => w = w1 ∧ c2 = .int .i64 0 ∧ ∀ k, ∀ hk : k < s.size, s[k] ≠ 95)
  case first =>
    go_wp2_with fail
    go_loop [2, 5] (fun v2 i => ∃ k : Nat, k ≤ s.size ∧ v2 = .int .i64 0 ∧ i = .int .i64 k ∧ ∀ j, j < k → ∀ hj : j < s.size, s[j] ≠ 95) (fun _ i => s.size - (intOf i).toNat)
    case atStart => exact ⟨0, Nat.zero_le _, rfl, rfl, fun j hj => absurd hj (by omega)⟩
    case round =>
      obtain ⟨k, hk, rfl, rfl, hno⟩ := hrel
      by_cases hlt : k < s.size
      · by_cases h95 : s[k] = 95
        · have hb : ((s[k].toNat : Int) == 95) = true := by simp [h95]
          clear h95 hno
          go_wp2
          go_ret3
          exact ⟨0, false, false, rfl, by simp, rfl⟩
        · have hb : ((s[k].toNat : Int) == 95) = false := by
            have : s[k].toNat ≠ 95 := fun e => h95 (by rw [← UInt8.toNat_inj, e]; rfl)
            simp; omega
          have hn : ∀ j, j < k + 1 → ∀ hj : j < s.size, s[j] ≠ 95 := fun j hj hjs => by
            by_cases e : j = k
            · subst e; exact h95
            · exact hno j (by omega) hjs
          clear h95 hno
          go_wp2
          go_round
          case rel => exact ⟨k + 1, by omega, rfl, by go_num, hn⟩
          case measure => simp [intOf]; omega
      · go_wp2
        go_meet
        case rel => exact ⟨rfl, rfl, fun k hk => hno k (by omega) hk⟩
  case rest =>
    obtain ⟨rfl, rfl, hu⟩ := hcut
    have Hu := hide hu
    clear hu
    go_upto_region 6 with fail
    go_cut [6] from 20 to 26 (fun c w1 => w = w1 ∧ ∃ m, c = .bool m ∧ m = minusB s)
    case first =>
      by_cases h0 : s.size = 0
      · have e0 : s.toList = [] := toList_nil h0
        have hm : minusB s = false := hasB_ge (by omega) _
        go_wp2_with fail
        go_meet
        case rel => exact ⟨rfl, _, rfl, by rw [hm]⟩
      · have h0' : 0 < s.size := by omega
        have e0 : s.toList.isEmpty = false := toList_ne h0'
        have hm : minusB s = ((s[0].toNat : Int) == 45) := hasB_lt h0' _
        go_wp2_with fail
        go_meet
        case rel => exact ⟨rfl, _, rfl, by rw [hm]⟩
    case rest =>
      obtain ⟨rfl, m, rfl, hm⟩ := hcut
      go_upto_region 7 with fail
      go_cut [36] from 27 to 36 (fun c w1 => w = w1 ∧ ∃ g, c = .bool g ∧ g = (m || plusB s))
      case first =>
        by_cases h0 : s.size = 0
        · have e0 : s.toList = [] := toList_nil h0
          have hm' : minusB s = false := hasB_ge (by omega) _
          have Hp : Hid (plusB s = false) := hasB_ge (by omega) _
          rw [hm'] at hm
          subst hm
          clear hm'
          go_wp2_with fail
          go_meet
          case rel => exact ⟨rfl, _, rfl, by rw [Hp.out]; rfl⟩
        · have h0' : 0 < s.size := by omega
          have e0 : s.toList.isEmpty = false := toList_ne h0'
          have Hpl : Hid (plusB s = ((s[0].toNat : Int) == 43)) := hasB_lt h0' _
          clear hm
          cases m with
          | true =>
            go_wp2_with fail
            go_meet
            case rel => exact ⟨rfl, _, rfl, rfl⟩
          | false =>
            go_wp2_with fail
            go_meet
            case rel => exact ⟨rfl, _, rfl, by rw [Hpl.out]; rfl⟩
      case rest =>
        obtain ⟨rfl, g, rfl, hg⟩ := hcut
        go_upto_if 36 with fail
        go_cut [0] from 37 to 38 (fun c w1 => w = w1 ∧ ∃ t, c = .string t ∧ t = stripN s)
        case first =>
          have h1 : g = true → 1 ≤ s.size := fun h => by
            rw [hg, hm] at h
            rcases Bool.or_eq_true_iff.1 h with h | h
            · exact hasB_size h
            · exact hasB_size h
          have Hst : Hid (stripN s = if g then s.extract 1 s.size else s) := by rw [hg, hm]; exact rfl
          clear hg hm
          cases g with
          | true =>
            have h1' := h1 rfl
            clear h1
            go_wp2_with fail
            go_meet
            case rel => exact ⟨rfl, _, rfl, by rw [Hst.out]; rfl⟩
          | false =>
            clear h1
            go_wp2_with fail
            go_meet
            case rel => exact ⟨rfl, _, rfl, by rw [Hst.out]; rfl⟩
        case rest =>
          obtain ⟨rfl, t, rfl, ht⟩ := hcut
          have Hm := hide hm
          have Ht := hide ht
          have hts : t.size ≤ 9223372036854775807 := by
            rw [ht]; unfold stripN
            split
            · rw [ByteArray.size_extract]; omega
            · exact hs
          clear hg hm ht
          go_upto_region 9 with fail
          go_upto_block 2 with fail
          go_cut [0, 2, 7] from 39 to 99 (fun c0 c2 c7 w1 => w = w1 ∧ c2 = .int .i64 0 ∧ ∃ (u : ByteArray) (base : Nat), c0 = .string u ∧ ((c7 = .int .i64 16 ∧ base = 16) ∨ (c7 = .int .i64 8 ∧ base = 8) ∨ (c7 = .int .i64 10 ∧ base = 10)) ∧ BaseOf t base u)
          case first =>
            by_cases h1 : 1 < t.size
            · have d1 : decide ((1 : Int) < (t.size : Int)) = true := by simp; omega
              have h0 : 0 < t.size := by omega
              have P0 := hide (hasB_lt h0 48)
              have P120 := hide (hasB_lt h1 120)
              have P88 := hide (hasB_lt h1 88)
              have P98 := hide (hasB_lt h1 98)
              have P66 := hide (hasB_lt h1 66)
              have P111 := hide (hasB_lt h1 111)
              have P79 := hide (hasB_lt h1 79)
              cases z : ((t[0].toNat : Int) == 48) with
              | false =>
                have HX : Hid (isX t = false) := hide (by unfold isX; rw [P0.out]; simp [z])
                have HB : Hid (isBO t = false) := hide (by unfold isBO; rw [P0.out]; simp [z])
                have HO : Hid (isO t = false) := hide (by unfold isO; rw [P0.out]; simp [z])
                go_wp2_with fail
                go_meet
                case rel => exact ⟨rfl, rfl, _, _, rfl, .inr (.inr ⟨rfl, rfl⟩), .inr (.inr ⟨HX.out, HB.out, HO.out, rfl, rfl⟩)⟩
              | true =>
                have HO : Hid (isO t = true) := hide (by unfold isO; rw [P0.out]; simp [z, h1])
                cases z120 : ((t[1].toNat : Int) == 120) with
                | true =>
                  have HX : Hid (isX t = true) := hide (by unfold isX; rw [P0.out, P120.out, P88.out]; simp [z, z120])
                  go_wp2_with fail
                  go_meet
                  case rel => exact ⟨rfl, rfl, _, _, rfl, .inl ⟨rfl, rfl⟩, .inl ⟨HX.out, rfl, rfl⟩⟩
                | false =>
                  cases z88 : ((t[1].toNat : Int) == 88) with
                  | true =>
                    have HX : Hid (isX t = true) := hide (by unfold isX; rw [P0.out, P120.out, P88.out]; simp [z, z120, z88])
                    go_wp2_with fail
                    go_meet
                    case rel => exact ⟨rfl, rfl, _, _, rfl, .inl ⟨rfl, rfl⟩, .inl ⟨HX.out, rfl, rfl⟩⟩
                  | false =>
                    have HX : Hid (isX t = false) := hide (by unfold isX; rw [P0.out, P120.out, P88.out]; simp [z, z120, z88])
                    cases z98 : ((t[1].toNat : Int) == 98) with
                    | true =>
                      go_wp2_with fail
                      go_ret3
                      exact ⟨0, false, false, rfl, by simp, rfl⟩
                    | false =>
                      cases z66 : ((t[1].toNat : Int) == 66) with
                      | true =>
                        go_wp2_with fail
                        go_ret3
                        exact ⟨0, false, false, rfl, by simp, rfl⟩
                      | false =>
                        cases z111 : ((t[1].toNat : Int) == 111) with
                        | true =>
                          go_wp2_with fail
                          go_ret3
                          exact ⟨0, false, false, rfl, by simp, rfl⟩
                        | false =>
                          cases z79 : ((t[1].toNat : Int) == 79) with
                          | true =>
                            go_wp2_with fail
                            go_ret3
                            exact ⟨0, false, false, rfl, by simp, rfl⟩
                          | false =>
                            have HB : Hid (isBO t = false) := hide (by unfold isBO; rw [P0.out, P98.out, P66.out, P111.out, P79.out]; simp [z, z98, z66, z111, z79])
                            go_wp2_with fail
                            go_meet
                            case rel => exact ⟨rfl, rfl, _, _, rfl, .inr (.inl ⟨rfl, rfl⟩), .inr (.inl ⟨HX.out, HB.out, HO.out, rfl, rfl⟩)⟩
            · have d1 : decide ((1 : Int) < (t.size : Int)) = false := by simp; omega
              have HX : Hid (isX t = false) := hide (by unfold isX; rw [hasB_ge (i := 1) (by omega), hasB_ge (i := 1) (by omega)]; simp)
              have HB : Hid (isBO t = false) := hide (by unfold isBO; rw [hasB_ge (i := 1) (by omega), hasB_ge (i := 1) (by omega), hasB_ge (i := 1) (by omega), hasB_ge (i := 1) (by omega)]; simp)
              have HO : Hid (isO t = false) := hide (by unfold isO; simp; omega)
              go_wp2_with fail
              go_meet
              case rel => exact ⟨rfl, rfl, _, _, rfl, .inr (.inr ⟨rfl, rfl⟩), .inr (.inr ⟨HX.out, HB.out, HO.out, rfl, rfl⟩)⟩
          case rest =>
            obtain ⟨rfl, rfl, u, base, rfl, hb3, hbase⟩ := hcut
            have Hbase := hide hbase
            have hus : u.size ≤ 9223372036854775807 := by
              rcases hbase with ⟨_, _, rfl⟩ | ⟨_, _, _, _, rfl⟩ | ⟨_, _, _, _, rfl⟩
              · rw [ByteArray.size_extract]; omega
              · rw [ByteArray.size_extract]; omega
              · exact hts
            clear hbase
            have Hb3 := hide hb3
            clear hb3
            by_cases hu0 : u.size = 0
            · have e0 : u.toList = [] := toList_nil hu0
              go_wp2_with fail
              go_ret3
              exact ⟨0, false, true, rfl, by simp, rfl⟩
            have hu1 : 0 < u.size := by omega
            have e0 : u.toList.isEmpty = false := toList_ne hu1
            rcases Hb3.out with ⟨rfl, rfl⟩ | ⟨rfl, rfl⟩ | ⟨rfl, rfl⟩
            · go_wp2_with fail
              go_loopw [2, 8, 9] (fun n i _ wr => ∃ k : Nat, w = wr ∧ k ≤ u.size ∧ i = .int .i64 k ∧ n = .int .i64 (-(valN 16 u k : Int)) ∧ valN 16 u k ≤ 9223372036854775808 ∧ ∀ j, j < k → ∀ hj : j < u.size, digN u[j].toNat < 16) (fun _ i _ _ => u.size - (intOf i).toNat)
              case atStart => exact ⟨0, rfl, Nat.zero_le _, rfl, rfl, by simp [valN], fun j hj => absurd hj (by omega)⟩
              case round =>
                obtain ⟨k, rfl, hk, rfl, rfl, hle, hd⟩ := hrel
                have Hd := hide hd
                clear hd
                by_cases hlt : k < u.size
                · have h256 : u[k].toNat < 256 := UInt8.toNat_lt _
                  have hv := hide (valN_succ 16 u k hlt)
                  have Hg := hide (digits_next (base := 16) (k := k) hlt Hd.out)
                  generalize hV : valN 16 u k = V at *
                  generalize hD : digN u[k].toNat = D at *
                  by_cases g1 : D < 16
                  · have g1' : ¬ (16 : Int) ≤ (D : Int) := by omega
                    by_cases g2 : V * 16 + D ≤ 9223372036854775808
                    · have g2' : ¬ -(V : Int) < (-9223372036854775808 + (D : Int)).tdiv 16 := fun h => by have := (tdiv_lt V D 16 (by omega) (by omega)).1 h; omega
                      go_wp2_with (go_at_call 67; refine (digit_any _ h256 _).mono ?_; rintro e w' ⟨rfl, rfl⟩; rw [hD])
                      go_roundw
                      case rel => exact ⟨k + 1, trivial, by omega, by go_num, by rw [hv.out]; go_num, by rw [hv.out]; exact g2, Hg.out g1⟩
                      case measure => simp [intOf]; omega
                    · have g2' : -(V : Int) < (-9223372036854775808 + (D : Int)).tdiv 16 := (tdiv_lt V D 16 (by omega) (by omega)).2 (by omega)
                      go_wp2_with (go_at_call 67; refine (digit_any _ h256 _).mono ?_; rintro e w' ⟨rfl, rfl⟩; rw [hD])
                      go_ret3
                      exact ⟨0, false, true, rfl, by simp, rfl⟩
                  · have g1' : (16 : Int) ≤ (D : Int) := by omega
                    go_wp2_with (go_at_call 67; refine (digit_any _ h256 _).mono ?_; rintro e w' ⟨rfl, rfl⟩; rw [hD])
                    go_ret3
                    exact ⟨0, false, true, rfl, by simp, rfl⟩
                · obtain rfl : k = u.size := by omega
                  have HT := hide (tail_of (base := 16) hle Hd.out hu1)
                  generalize hV : valN 16 u u.size = V at *
                  cases m with
                  | true =>
                    go_wp2_with fail
                    go_ret3
                    exact ⟨_, true, true, rfl, fun _ => ⟨⟨Hu.out, _, _, _, by rw [← Ht.out]; exact Hbase.out, HT.out, .inl ⟨Hm.out.symm, rfl⟩⟩, by omega, by omega⟩, rfl⟩
                  | false =>
                    by_cases g3 : V = 9223372036854775808
                    · have g3' : (-(V : Int) == -9223372036854775808) = true := by simp; omega
                      go_wp2_with fail
                      go_ret3
                      exact ⟨_, false, true, by go_num, by simp, rfl⟩
                    · have g3' : (-(V : Int) == -9223372036854775808) = false := by simp; omega
                      go_wp2_with fail
                      go_ret3
                      exact ⟨(V : Int), true, true, by go_num, fun _ => ⟨⟨Hu.out, _, _, _, by rw [← Ht.out]; exact Hbase.out, HT.out, .inr ⟨Hm.out.symm, rfl, by omega⟩⟩, by omega, by omega⟩, rfl⟩
            · go_wp2_with fail
              go_loopw [2, 8, 9] (fun n i _ wr => ∃ k : Nat, w = wr ∧ k ≤ u.size ∧ i = .int .i64 k ∧ n = .int .i64 (-(valN 8 u k : Int)) ∧ valN 8 u k ≤ 9223372036854775808 ∧ ∀ j, j < k → ∀ hj : j < u.size, digN u[j].toNat < 8) (fun _ i _ _ => u.size - (intOf i).toNat)
              case atStart => exact ⟨0, rfl, Nat.zero_le _, rfl, rfl, by simp [valN], fun j hj => absurd hj (by omega)⟩
              case round =>
                obtain ⟨k, rfl, hk, rfl, rfl, hle, hd⟩ := hrel
                have Hd := hide hd
                clear hd
                by_cases hlt : k < u.size
                · have h256 : u[k].toNat < 256 := UInt8.toNat_lt _
                  have hv := hide (valN_succ 8 u k hlt)
                  have Hg := hide (digits_next (base := 8) (k := k) hlt Hd.out)
                  generalize hV : valN 8 u k = V at *
                  generalize hD : digN u[k].toNat = D at *
                  by_cases g1 : D < 8
                  · have g1' : ¬ (8 : Int) ≤ (D : Int) := by omega
                    by_cases g2 : V * 8 + D ≤ 9223372036854775808
                    · have g2' : ¬ -(V : Int) < (-9223372036854775808 + (D : Int)).tdiv 8 := fun h => by have := (tdiv_lt V D 8 (by omega) (by omega)).1 h; omega
                      go_wp2_with (go_at_call 67; refine (digit_any _ h256 _).mono ?_; rintro e w' ⟨rfl, rfl⟩; rw [hD])
                      go_roundw
                      case rel => exact ⟨k + 1, trivial, by omega, by go_num, by rw [hv.out]; go_num, by rw [hv.out]; exact g2, Hg.out g1⟩
                      case measure => simp [intOf]; omega
                    · have g2' : -(V : Int) < (-9223372036854775808 + (D : Int)).tdiv 8 := (tdiv_lt V D 8 (by omega) (by omega)).2 (by omega)
                      go_wp2_with (go_at_call 67; refine (digit_any _ h256 _).mono ?_; rintro e w' ⟨rfl, rfl⟩; rw [hD])
                      go_ret3
                      exact ⟨0, false, true, rfl, by simp, rfl⟩
                  · have g1' : (8 : Int) ≤ (D : Int) := by omega
                    go_wp2_with (go_at_call 67; refine (digit_any _ h256 _).mono ?_; rintro e w' ⟨rfl, rfl⟩; rw [hD])
                    go_ret3
                    exact ⟨0, false, true, rfl, by simp, rfl⟩
                · obtain rfl : k = u.size := by omega
                  have HT := hide (tail_of (base := 8) hle Hd.out hu1)
                  generalize hV : valN 8 u u.size = V at *
                  cases m with
                  | true =>
                    go_wp2_with fail
                    go_ret3
                    exact ⟨_, true, true, rfl, fun _ => ⟨⟨Hu.out, _, _, _, by rw [← Ht.out]; exact Hbase.out, HT.out, .inl ⟨Hm.out.symm, rfl⟩⟩, by omega, by omega⟩, rfl⟩
                  | false =>
                    by_cases g3 : V = 9223372036854775808
                    · have g3' : (-(V : Int) == -9223372036854775808) = true := by simp; omega
                      go_wp2_with fail
                      go_ret3
                      exact ⟨_, false, true, by go_num, by simp, rfl⟩
                    · have g3' : (-(V : Int) == -9223372036854775808) = false := by simp; omega
                      go_wp2_with fail
                      go_ret3
                      exact ⟨(V : Int), true, true, by go_num, fun _ => ⟨⟨Hu.out, _, _, _, by rw [← Ht.out]; exact Hbase.out, HT.out, .inr ⟨Hm.out.symm, rfl, by omega⟩⟩, by omega, by omega⟩, rfl⟩
            · go_wp2_with fail
              go_loopw [2, 8, 9] (fun n i _ wr => ∃ k : Nat, w = wr ∧ k ≤ u.size ∧ i = .int .i64 k ∧ n = .int .i64 (-(valN 10 u k : Int)) ∧ valN 10 u k ≤ 9223372036854775808 ∧ ∀ j, j < k → ∀ hj : j < u.size, digN u[j].toNat < 10) (fun _ i _ _ => u.size - (intOf i).toNat)
              case atStart => exact ⟨0, rfl, Nat.zero_le _, rfl, rfl, by simp [valN], fun j hj => absurd hj (by omega)⟩
              case round =>
                obtain ⟨k, rfl, hk, rfl, rfl, hle, hd⟩ := hrel
                have Hd := hide hd
                clear hd
                by_cases hlt : k < u.size
                · have h256 : u[k].toNat < 256 := UInt8.toNat_lt _
                  have hv := hide (valN_succ 10 u k hlt)
                  have Hg := hide (digits_next (base := 10) (k := k) hlt Hd.out)
                  generalize hV : valN 10 u k = V at *
                  generalize hD : digN u[k].toNat = D at *
                  by_cases g1 : D < 10
                  · have g1' : ¬ (10 : Int) ≤ (D : Int) := by omega
                    by_cases g2 : V * 10 + D ≤ 9223372036854775808
                    · have g2' : ¬ -(V : Int) < (-9223372036854775808 + (D : Int)).tdiv 10 := fun h => by have := (tdiv_lt V D 10 (by omega) (by omega)).1 h; omega
                      go_wp2_with (go_at_call 67; refine (digit_any _ h256 _).mono ?_; rintro e w' ⟨rfl, rfl⟩; rw [hD])
                      go_roundw
                      case rel => exact ⟨k + 1, trivial, by omega, by go_num, by rw [hv.out]; go_num, by rw [hv.out]; exact g2, Hg.out g1⟩
                      case measure => simp [intOf]; omega
                    · have g2' : -(V : Int) < (-9223372036854775808 + (D : Int)).tdiv 10 := (tdiv_lt V D 10 (by omega) (by omega)).2 (by omega)
                      go_wp2_with (go_at_call 67; refine (digit_any _ h256 _).mono ?_; rintro e w' ⟨rfl, rfl⟩; rw [hD])
                      go_ret3
                      exact ⟨0, false, true, rfl, by simp, rfl⟩
                  · have g1' : (10 : Int) ≤ (D : Int) := by omega
                    go_wp2_with (go_at_call 67; refine (digit_any _ h256 _).mono ?_; rintro e w' ⟨rfl, rfl⟩; rw [hD])
                    go_ret3
                    exact ⟨0, false, true, rfl, by simp, rfl⟩
                · obtain rfl : k = u.size := by omega
                  have HT := hide (tail_of (base := 10) hle Hd.out hu1)
                  generalize hV : valN 10 u u.size = V at *
                  cases m with
                  | true =>
                    go_wp2_with fail
                    go_ret3
                    exact ⟨_, true, true, rfl, fun _ => ⟨⟨Hu.out, _, _, _, by rw [← Ht.out]; exact Hbase.out, HT.out, .inl ⟨Hm.out.symm, rfl⟩⟩, by omega, by omega⟩, rfl⟩
                  | false =>
                    by_cases g3 : V = 9223372036854775808
                    · have g3' : (-(V : Int) == -9223372036854775808) = true := by simp; omega
                      go_wp2_with fail
                      go_ret3
                      exact ⟨_, false, true, by go_num, by simp, rfl⟩
                    · have g3' : (-(V : Int) == -9223372036854775808) = false := by simp; omega
                      go_wp2_with fail
                      go_ret3
                      exact ⟨(V : Int), true, true, by go_num, fun _ => ⟨⟨Hu.out, _, _, _, by rw [← Ht.out]; exact Hbase.out, HT.out, .inr ⟨Hm.out.symm, rfl, by omega⟩⟩, by omega, by omega⟩, rfl⟩
end Go.Proofs.YtpcmiaablanmeaaGreatDoor
