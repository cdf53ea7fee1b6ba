/- internal/strconv.ParseUint and ParseInt, base 0, at a text that has a value. -/
import Derived.Test.YtpcmiaablanmeaaGreatDoorNum
import Derived.Test.YtpcmiaablanmeaaGreatDoorShelf
import Derived.Deep.Cut
import Derived.Deep.CutBlock
import Derived.Deep.CutRange
import Derived.Deep.DeepCutAuto
import Derived.Lib.ItoaWalk
import Derived.Lib.ConvBytes
namespace Go.Proofs.YtpcmiaablanmeaaGreatDoor
open Go.RowKit

theorem low_all : ∀ c : Fin 256, bits .or .u8 (c.val : Int) 32 = ((c.val ||| 32 : Nat) : Int) := by decide +kernel
theorem low_eq (c : Nat) (h : c < 256) : bits .or .u8 (c : Int) 32 = ((c ||| 32 : Nat) : Int) := low_all ⟨c, h⟩

theorem low_is_all : ∀ c : Fin 256, (c.val ||| 32 = 120 ↔ c.val = 120 ∨ c.val = 88) ∧ (c.val ||| 32 = 98 ↔ c.val = 98 ∨ c.val = 66) ∧ (c.val ||| 32 = 111 ↔ c.val = 111 ∨ c.val = 79) ∧ c.val ||| 32 < 256 := by decide +kernel
theorem low_is (c : Nat) (h : c < 256) : (c ||| 32 = 120 ↔ c = 120 ∨ c = 88) ∧ (c ||| 32 = 98 ↔ c = 98 ∨ c = 66) ∧ (c ||| 32 = 111 ↔ c = 111 ∨ c = 79) ∧ c ||| 32 < 256 := low_is_all ⟨c, h⟩
theorem low_let_all : ∀ c : Fin 256, (97 ≤ c.val ∧ c.val ≤ 102 → c.val ||| 32 = c.val) ∧ (65 ≤ c.val ∧ c.val ≤ 70 → c.val ||| 32 = c.val + 32) := by decide +kernel
theorem low_let (c : Nat) (h : c < 256) : (97 ≤ c ∧ c ≤ 102 → c ||| 32 = c) ∧ (65 ≤ c ∧ c ≤ 70 → c ||| 32 = c + 32) := low_let_all ⟨c, h⟩

theorem hasB_nat {s : ByteArray} {i : Nat} (h : i < s.size) (c : UInt8) : hasB s i c = decide (s[i].toNat = c.toNat) := by
  rw [hasB_lt h, Bool.eq_iff_iff]
  simp only [beq_iff_eq, decide_eq_true_eq]
  omega

/-- What stands behind the prefix, for ParseUint. -/
def PDigits (u : ByteArray) (base V : Nat) : Prop := (∀ k, ∀ hk : k < u.size, digN u[k].toNat < base) ∧ V = valN base u u.size ∧ V ≤ 9223372036854775808 ∧ u.size ≤ 16777216
def PCut (c1 : Value) (base : Nat) : Prop := (c1 = .int .i64 16 ∧ base = 16) ∨ (c1 = .int .i64 8 ∧ base = 8) ∨ (c1 = .int .i64 10 ∧ base = 10)

theorem bytes_below (w : World) (e : TypeId) (s : ByteArray) : Below w.heap.size w (Lib.bytesWorld w e s) :=
  ⟨rfl, rfl, rfl, by rw [Lib.bytesWorld_size]; omega, fun i hi => Lib.bytesWorld_at_old w e s i hi⟩

set_option maxHeartbeats 1000000 in
set_option maxRecDepth 100000 in
theorem parseUint_ok (t : ByteArray) (base : Nat) (u : ByteArray) (V : Nat) (w : World) (hs : t.size ≤ 16777216) (hb : BaseOf t base u) (hT : Tail base u V) :
    Calls Tryz.prog 163 #[.string t, .int .i64 0, .int .i64 64] w fun e w' => e = .returned (.tuple #[.int .u64 V, .nilIface]) ∧ Below w.heap.size w w' := by
  have h0 : 0 < t.size := by
    have := hT.some
    rcases hb with ⟨_, _, rfl⟩ | ⟨_, _, _, _, rfl⟩ | ⟨_, _, _, _, rfl⟩
    · rw [ByteArray.size_extract] at this; omega
    · rw [ByteArray.size_extract] at this; omega
    · exact this
  have e0 : t.toList.isEmpty = false := toList_ne h0
  have Hb := hide hb
  have HT := hide hT
  clear hb hT
  go_enter Tryz.func163, Tryz.ntmps163
  go_upto_block 0 with fail
  go_cut [0, 1] from 24 to 75 (fun c0 c1 w1 => w = w1 ∧ ∃ (v : ByteArray) (b : Nat), c0 = .string v ∧ PCut c1 b ∧ PDigits v b V)
  case first =>
    have hV := HT.out.val
    have hle := HT.out.le
    have hsm := HT.out.some
    have hdg := HT.out.digs
    by_cases z0 : t[0].toNat = 48
    · have z : ((t[0].toNat : Int) == 48) = true := by simp; omega
      by_cases h1 : 1 < t.size
      · have hc := UInt8.toNat_lt t[1]
        have hl := low_eq t[1].toNat (by omega)
        obtain ⟨l1, l2, l3, l4⟩ := low_is t[1].toNat (by omega)
        have b0 : hasB t 0 48 = true := by rw [hasB_nat h0]; simpa using z0
        rcases Hb.out with ⟨hX, rfl, rfl⟩ | ⟨hX, hB, hO, rfl, rfl⟩ | ⟨hX, hB, hO, rfl, rfl⟩
        · have hD : Hid (PDigits (t.extract 2 t.size) 16 V) := ⟨hdg, hV, hle, by rw [ByteArray.size_extract]; omega⟩
          rw [ByteArray.size_extract] at hsm
          have h3 : decide ((3 : Int) ≤ (t.size : Int)) = true := by simp; omega
          unfold isX at hX
          rw [b0, hasB_nat h1, hasB_nat h1] at hX
          simp at hX
          generalize hL : t[1].toNat ||| 32 = L at *
          have hL' : L = 120 := l1.2 (by rcases hX with h | h; exact .inl (by simpa using h); exact .inr (by simpa using h))
          subst hL'
          clear hX l1 l2 l3 hV hdg hL b0 z0
          go_wp2_with (first | (go_at_call 164; refine (Tryz.internal_strconv_lower _ _).mono ?_; rintro e w' ⟨rfl, rfl⟩; rw [hl]) | go_in)
          go_meet
          case rel => exact ⟨rfl, _, _, rfl, .inl ⟨rfl, rfl⟩, hD.out⟩
        · have hD : Hid (PDigits (t.extract 1 t.size) 8 V) := ⟨hdg, hV, hle, by rw [ByteArray.size_extract]; omega⟩
          unfold isX at hX
          unfold isBO at hB
          rw [b0, hasB_nat h1, hasB_nat h1] at hX
          rw [b0, hasB_nat h1, hasB_nat h1, hasB_nat h1, hasB_nat h1] at hB
          simp at hX hB
          generalize hL : t[1].toNat ||| 32 = L at *
          have n1 : L ≠ 120 := fun h => by rcases l1.1 h with h | h; exact hX.1 (by simpa using h); exact hX.2 (by simpa using h)
          have n2 : L ≠ 98 := fun h => by rcases l2.1 h with h | h; exact hB.1.1.1 (by simpa using h); exact hB.1.1.2 (by simpa using h)
          have n3 : L ≠ 111 := fun h => by rcases l3.1 h with h | h; exact hB.1.2 (by simpa using h); exact hB.2 (by simpa using h)
          have m1 : ((L : Int) == 120) = false := by simp; omega
          have m2 : ((L : Int) == 98) = false := by simp; omega
          have m3 : ((L : Int) == 111) = false := by simp; omega
          clear hX hB l1 l2 l3 hV hdg hL b0 z0 n1 n2 n3
          by_cases h3' : 3 ≤ t.size
          · have h3 : decide ((3 : Int) ≤ (t.size : Int)) = true := by simp; omega
            go_wp2_with (first | (go_at_call 164; refine (Tryz.internal_strconv_lower _ _).mono ?_; rintro e w' ⟨rfl, rfl⟩; rw [hl]) | go_in)
            go_meet
            case rel => exact ⟨rfl, _, _, rfl, .inr (.inl ⟨rfl, rfl⟩), hD.out⟩
          · have h3 : decide ((3 : Int) ≤ (t.size : Int)) = false := by simp; omega
            go_wp2_with fail
            go_meet
            case rel => exact ⟨rfl, _, _, rfl, .inr (.inl ⟨rfl, rfl⟩), hD.out⟩
        · unfold isO at hO
          rw [b0] at hO
          simp at hO
          omega
      · have h3 : decide ((3 : Int) ≤ (t.size : Int)) = false := by simp; omega
        have hsz : t.size = 1 := by omega
        have hV0 : V = 0 := by
          rcases Hb.out with ⟨hX, rfl, rfl⟩ | ⟨hX, hB, hO, rfl, rfl⟩ | ⟨hX, hB, hO, rfl, rfl⟩
          · rw [ByteArray.size_extract] at hsm; omega
          · rw [ByteArray.size_extract] at hsm; omega
          · rw [hV, hsz, valN_succ _ _ _ h0, z0]
            rfl
        have hD : Hid (PDigits (t.extract 1 t.size) 8 V) := by
          have hz : (t.extract 1 t.size).size = 0 := by rw [ByteArray.size_extract]; omega
          exact ⟨fun k hk => absurd hk (by omega), by rw [hz]; exact hV0, by omega, by omega⟩
        clear hV hdg z0 hV0 hsz
        go_wp2_with fail
        go_meet
        case rel => exact ⟨rfl, _, _, rfl, .inr (.inl ⟨rfl, rfl⟩), hD.out⟩
    · have z : ((t[0].toNat : Int) == 48) = false := by simp; omega
      have b0 : hasB t 0 48 = false := by rw [hasB_nat h0]; simpa using z0
      have hD : Hid (PDigits t 10 V) := by
        rcases Hb.out with ⟨hX, rfl, rfl⟩ | ⟨hX, hB, hO, rfl, rfl⟩ | ⟨hX, hB, hO, rfl, rfl⟩
        · unfold isX at hX; rw [b0] at hX; simp at hX
        · unfold isO at hO; rw [b0] at hO; simp at hO
        · exact ⟨hdg, hV, hle, hs⟩
      clear hV hdg z0 b0
      go_wp2_with fail
      go_meet
      case rel => exact ⟨rfl, _, _, rfl, .inr (.inr ⟨rfl, rfl⟩), hD.out⟩
  case rest =>
    obtain ⟨rfl, v, b, rfl, hc, hD⟩ := hcut
    have Hdig := hide hD.1
    have HV := hide hD.2.1
    have hle := hD.2.2.1
    have hvs := hD.2.2.2
    have hcv := Lib.run_convert_string_bytes (P := Tryz.prog) w 9 196 5 v (u := .string) Tryz.underlying9 Tryz.underlying196 Tryz.underlying5
    have hB : ∀ j (hj : j < v.size), (Lib.bytesWorld w 5 v).cell? ⟨w.heap.size, j, none⟩ = some (.int .u8 v[j].toNat) := fun j hj => by
      rw [Lib.bytesWorld_cell w 5 v j hj]
      simp [List.getD, Array.getElem?_eq_getElem hj]
      rfl
    have hbel := hide (bytes_below w 5 v)
    obtain ⟨W1, hW1⟩ : ∃ W1, W1 = Lib.bytesWorld w 5 v := ⟨_, rfl⟩
    rw [← hW1] at hcv hB hbel
    clear hW1 hD h0 e0 Hb HT
    have hmx0 : IntKind.u64.wrap 18446744073709551616 = 0 := by decide
    have hmx1 : IntKind.u64.wrap (-1) = 18446744073709551615 := by decide
    rcases hc with ⟨rfl, rfl⟩ | ⟨rfl, rfl⟩ | ⟨rfl, rfl⟩
    · go_wp2_with fail
      go_loop [12, 13, 101] (fun vu vn vi => ∃ (k : Nat) (a : Int), vu = .bool false ∧ vn = .int .u64 a ∧ vi = .int .i64 k ∧ k ≤ v.size ∧ Hid (a = (valN 16 v k : Int))) (fun _ _ vi => v.size - (intOf vi).toNat)
      case atStart => exact ⟨0, 0, rfl, rfl, rfl, Nat.zero_le _, rfl⟩
      case round =>
        obtain ⟨k, a, rfl, rfl, rfl, hk, hh⟩ := hrel
        have ha := hh.out
        by_cases hkn : k < v.size
        · have hc := hB k hkn
          have hdc := Hdig.out k hkn
          have Hs := hide (valN_succ 16 v k hkn)
          have hmo : valN 16 v (k + 1) ≤ 9223372036854775808 := by
            have h1 := valN_mono 16 v (by omega) (k + 1) v.size (by omega)
            have h2 := HV.out
            omega
          rw [Hs.out] at hmo
          have hc256 : v[k].toNat < 256 := UInt8.toNat_lt _
          generalize v[k].toNat = c at *
          have hl := low_eq c hc256
          obtain ⟨ll1, ll2⟩ := low_let c hc256
          have HLA := hide ll1
          have HLB := hide ll2
          clear hB ll1 ll2
          generalize hVk : valN 16 v k = Vk at *
          clear hVk
          have a0 : 0 ≤ a := by omega
          have icut : a < 1152921504606846976 := by omega
          by_cases hA : 48 ≤ c ∧ c ≤ 57
          · obtain ⟨hA0, hA1⟩ := hA
            have hdN : digN c = c - 48 := by unfold digN; rw [if_pos ⟨hA0, hA1⟩]
            rw [hdN] at hdc hmo Hs
            clear hdN hl HLA HLB
            have hcB : c < 64 := by omega
            have iov : a * 16 + ((c : Int) - 48) ≤ 9223372036854775808 := by omega
            have HN : Hid (a * 16 + ((c : Int) - 48) = (valN 16 v (k + 1) : Int)) := hide (by rw [Hs.out]; omega)
            clear hdc ha hmo
            go_wp2_with fail
            go_round
            case rel => exact ⟨k + 1, a * 16 + ((c : Int) - 48), rfl, by go_num, by go_num, by omega, HN⟩
            case measure => simp [intOf]; omega
          · by_cases hC : 97 ≤ c ∧ c ≤ 102
            · obtain ⟨hC0, hC1⟩ := hC
              have hdN : digN c = c - 97 + 10 := by unfold digN; rw [if_neg hA, if_pos ⟨hC0, hC1⟩]
              have hLe := HLA.out ⟨hC0, hC1⟩
              rw [hdN] at hdc hmo Hs
              obtain ⟨L, hL⟩ : ∃ L, c ||| 32 = L := ⟨_, rfl⟩
              have hL0 : 97 ≤ L := by omega
              have hL1 : L ≤ 102 := by omega
              have hLc : L = c := by omega
              have hnA : ¬ c ≤ 57 := by omega
              clear hdN HLA HLB hA hLe
              have iov : a * 16 + ((L : Int) - 97 + 10) ≤ 9223372036854775808 := by omega
              have HN : Hid (a * 16 + ((L : Int) - 97 + 10) = (valN 16 v (k + 1) : Int)) := hide (by rw [Hs.out]; omega)
              clear hdc ha hmo
              go_wp2_with (first | (go_at_call 164; refine (Tryz.internal_strconv_lower _ _).mono ?_; rintro e w' ⟨rfl, rfl⟩; rw [hl, hL]) | go_in)
              go_round
              case rel => exact ⟨k + 1, a * 16 + ((L : Int) - 97 + 10), rfl, by go_num, by go_num, by omega, HN⟩
              case measure => simp [intOf]; omega
            · by_cases hE : 65 ≤ c ∧ c ≤ 70
              · obtain ⟨hE0, hE1⟩ := hE
                have hdN : digN c = c - 65 + 10 := by unfold digN; rw [if_neg hA, if_neg hC, if_pos ⟨hE0, hE1⟩]
                have hLe := HLB.out ⟨hE0, hE1⟩
                rw [hdN] at hdc hmo Hs
                obtain ⟨L, hL⟩ : ∃ L, c ||| 32 = L := ⟨_, rfl⟩
                have hL0 : 97 ≤ L := by omega
                have hL1 : L ≤ 102 := by omega
                have hLc : L = c + 32 := by omega
                have hnA : ¬ c ≤ 57 := by omega
                clear hdN HLA HLB hA hLe hC
                have iov : a * 16 + ((L : Int) - 97 + 10) ≤ 9223372036854775808 := by omega
                have HN : Hid (a * 16 + ((L : Int) - 97 + 10) = (valN 16 v (k + 1) : Int)) := hide (by rw [Hs.out]; omega)
                clear hdc ha hmo
                go_wp2_with (first | (go_at_call 164; refine (Tryz.internal_strconv_lower _ _).mono ?_; rintro e w' ⟨rfl, rfl⟩; rw [hl, hL]) | go_in)
                go_round
                case rel => exact ⟨k + 1, a * 16 + ((L : Int) - 97 + 10), rfl, by go_num, by go_num, by omega, HN⟩
                case measure => simp [intOf]; omega
              · unfold digN at hdc
                rw [if_neg hA, if_neg hC, if_neg hE] at hdc
                omega
        · obtain rfl : k = v.size := by omega
          have haV : a = (V : Int) := by rw [ha, HV.out]
          subst haV
          clear ha hh
          go_wp2_with fail
          go_ret2
          exact ⟨rfl, hbel.out⟩
    · go_wp2_with fail
      go_loop [12, 13, 101] (fun vu vn vi => ∃ (k : Nat) (a : Int), vu = .bool false ∧ vn = .int .u64 a ∧ vi = .int .i64 k ∧ k ≤ v.size ∧ Hid (a = (valN 8 v k : Int))) (fun _ _ vi => v.size - (intOf vi).toNat)
      case atStart => exact ⟨0, 0, rfl, rfl, rfl, Nat.zero_le _, rfl⟩
      case round =>
        obtain ⟨k, a, rfl, rfl, rfl, hk, hh⟩ := hrel
        have ha := hh.out
        by_cases hkn : k < v.size
        · have hc := hB k hkn
          have hdc := Hdig.out k hkn
          have Hs := hide (valN_succ 8 v k hkn)
          have hmo : valN 8 v (k + 1) ≤ 9223372036854775808 := by
            have h1 := valN_mono 8 v (by omega) (k + 1) v.size (by omega)
            have h2 := HV.out
            omega
          rw [Hs.out] at hmo
          have hc256 : v[k].toNat < 256 := UInt8.toNat_lt _
          generalize v[k].toNat = c at *
          have hl := low_eq c hc256
          obtain ⟨ll1, ll2⟩ := low_let c hc256
          have HLA := hide ll1
          have HLB := hide ll2
          clear hB ll1 ll2
          generalize hVk : valN 8 v k = Vk at *
          clear hVk
          have a0 : 0 ≤ a := by omega
          have icut : a < 2305843009213693952 := by omega
          by_cases hA : 48 ≤ c ∧ c ≤ 57
          · obtain ⟨hA0, hA1⟩ := hA
            have hdN : digN c = c - 48 := by unfold digN; rw [if_pos ⟨hA0, hA1⟩]
            rw [hdN] at hdc hmo Hs
            clear hdN hl HLA HLB
            have hcB : c < 56 := by omega
            have iov : a * 8 + ((c : Int) - 48) ≤ 9223372036854775808 := by omega
            have HN : Hid (a * 8 + ((c : Int) - 48) = (valN 8 v (k + 1) : Int)) := hide (by rw [Hs.out]; omega)
            clear hdc ha hmo
            go_wp2_with fail
            go_round
            case rel => exact ⟨k + 1, a * 8 + ((c : Int) - 48), rfl, by go_num, by go_num, by omega, HN⟩
            case measure => simp [intOf]; omega
          · unfold digN at hdc
            rw [if_neg hA] at hdc
            split at hdc
            · omega
            · split at hdc
              · omega
              · omega
        · obtain rfl : k = v.size := by omega
          have haV : a = (V : Int) := by rw [ha, HV.out]
          subst haV
          clear ha hh
          go_wp2_with fail
          go_ret2
          exact ⟨rfl, hbel.out⟩
    · go_wp2_with fail
      go_loop [12, 13, 101] (fun vu vn vi => ∃ (k : Nat) (a : Int), vu = .bool false ∧ vn = .int .u64 a ∧ vi = .int .i64 k ∧ k ≤ v.size ∧ Hid (a = (valN 10 v k : Int))) (fun _ _ vi => v.size - (intOf vi).toNat)
      case atStart => exact ⟨0, 0, rfl, rfl, rfl, Nat.zero_le _, rfl⟩
      case round =>
        obtain ⟨k, a, rfl, rfl, rfl, hk, hh⟩ := hrel
        have ha := hh.out
        by_cases hkn : k < v.size
        · have hc := hB k hkn
          have hdc := Hdig.out k hkn
          have Hs := hide (valN_succ 10 v k hkn)
          have hmo : valN 10 v (k + 1) ≤ 9223372036854775808 := by
            have h1 := valN_mono 10 v (by omega) (k + 1) v.size (by omega)
            have h2 := HV.out
            omega
          rw [Hs.out] at hmo
          have hc256 : v[k].toNat < 256 := UInt8.toNat_lt _
          generalize v[k].toNat = c at *
          have hl := low_eq c hc256
          obtain ⟨ll1, ll2⟩ := low_let c hc256
          have HLA := hide ll1
          have HLB := hide ll2
          clear hB ll1 ll2
          generalize hVk : valN 10 v k = Vk at *
          clear hVk
          have a0 : 0 ≤ a := by omega
          have icut : a < 1844674407370955162 := by omega
          by_cases hA : 48 ≤ c ∧ c ≤ 57
          · obtain ⟨hA0, hA1⟩ := hA
            have hdN : digN c = c - 48 := by unfold digN; rw [if_pos ⟨hA0, hA1⟩]
            rw [hdN] at hdc hmo Hs
            clear hdN hl HLA HLB
            have hcB : c < 58 := by omega
            have iov : a * 10 + ((c : Int) - 48) ≤ 9223372036854775808 := by omega
            have HN : Hid (a * 10 + ((c : Int) - 48) = (valN 10 v (k + 1) : Int)) := hide (by rw [Hs.out]; omega)
            clear hdc ha hmo
            go_wp2_with fail
            go_round
            case rel => exact ⟨k + 1, a * 10 + ((c : Int) - 48), rfl, by go_num, by go_num, by omega, HN⟩
            case measure => simp [intOf]; omega
          · unfold digN at hdc
            rw [if_neg hA] at hdc
            split at hdc
            · omega
            · split at hdc
              · omega
              · omega
        · obtain rfl : k = v.size := by omega
          have haV : a = (V : Int) := by rw [ha, HV.out]
          subst haV
          clear ha hh
          go_wp2_with fail
          go_ret2
          exact ⟨rfl, hbel.out⟩
end Go.Proofs.YtpcmiaablanmeaaGreatDoor
