/- What FlagSet.Var asks of a name: that it doesn't begin with a hyphen, and has no equals sign. -/
import Derived.Test.YtpcmiaablanmeaaGreatDoorDefined
import Derived.Test.YtpcmiaablanmeaaGreatDoorShelf
import Derived.Lib.Strings
namespace Go.Proofs.YtpcmiaablanmeaaGreatDoor
open Go.RowKit

theorem noSign_of (s : ByteArray) (h : signOf s < 0) : ∀ k, ∀ hk : k < s.size, s[k] ≠ 61 := by
  intro k hk e
  unfold signOf at h
  cases hf : s.data.toList.findIdx? (· == 61) with
  | some i => rw [hf] at h; simp at h; omega
  | none =>
    rw [List.findIdx?_eq_none_iff] at hf
    have := hf s[k] (by
      have : s.data[k] ∈ s.data.toList := by simp
      exact this)
    rw [e] at this
    simp at this

theorem piece_no (s : ByteArray) (k : Nat) (hk : k < s.size) (h : s[k] ≠ 61) : ((s.extract k (k + 1)).toList == [61]) = false := by
  rw [beq_eq_false_iff_ne, Go.Lib.extract_toList]
  intro e
  rw [show k + 1 - k = 1 from by omega] at e
  have hl : k < s.data.toList.length := by simpa using hk
  rw [List.drop_eq_getElem_cons hl] at e
  simp at e
  exact h e

set_option maxHeartbeats 400000 in
theorem zzIndex_no (s : ByteArray) (w : World) (hs : s.size ≤ 1048576) (h : signOf s < 0) :
    Calls Tryz.prog 103 #[.string s, .string ⟨#[61]⟩] w fun e w' => e = .returned (.int .i64 (-1)) ∧ w = w' := by
  have hno := hide (noSign_of s h)
  clear h
  go_enter Tryz.func103, Tryz.ntmps103
  go_wp2
  go_loop [5] (fun i => ∃ k : Nat, k ≤ s.size ∧ i = .int .i64 k) (fun i => s.size - (intOf i).toNat)
  case atStart => exact ⟨0, Nat.zero_le _, rfl⟩
  case round =>
    obtain ⟨k, hk, rfl⟩ := hrel
    by_cases hlt : k < s.size
    · have hp := piece_no s k hlt (hno.out k hlt)
      go_wp2
      go_round
      case rel => exact ⟨k + 1, by omega, by go_num⟩
      case measure => simp [intOf]; omega
    · obtain rfl : k = s.size := by omega
      go_wp2
      go_ret
      exact ⟨rfl, rfl⟩

set_option maxHeartbeats 400000 in
theorem zzContains_no (s : ByteArray) (w : World) (hs : s.size ≤ 1048576) (h : signOf s < 0) :
    Calls Tryz.prog 97 #[.string s, .string ⟨#[61]⟩] w fun e w' => e = .returned (.bool false) ∧ w = w' := by
  go_enter Tryz.func97, Tryz.ntmps97
  go_wp2_with (go_at_call 103; refine (zzIndex_no s _ hs h).mono ?_; rintro e w' ⟨rfl, rfl⟩)
  go_ret
  exact ⟨rfl, rfl⟩

theorem dash_no (s : ByteArray) (h0 : 0 < s.size) (h : s[0] ≠ 45) : Go.Lib.hasPrefix s.data.toList [45] = false := by
  have hl : 0 < s.data.toList.length := by simpa using h0
  have e : s.data.toList = s.data[0] :: s.data.toList.tail := by
    have := List.drop_eq_getElem_cons hl
    simpa using this
  have h' : s.data[0] ≠ 45 := h
  rw [e]
  unfold Go.Lib.hasPrefix
  simp only [List.isPrefixOf, Bool.and_true, beq_eq_false_iff_ne, ne_eq]
  exact fun e' => h' (Eq.symm e')

theorem hasDash_no (s : ByteArray) (w : World) (h0 : 0 < s.size) (h : s[0] ≠ 45) :
    Calls Tryz.prog 96 #[.string s, .string ⟨#[45]⟩] w fun e w' => e = .returned (.bool false) ∧ w = w' :=
  (Tryz.strings_HasPrefix s ⟨#[45]⟩ w).mono fun _ _ ⟨he, hw⟩ => ⟨by rw [he, dash_no s h0 h], hw.symm⟩
end Go.Proofs.YtpcmiaablanmeaaGreatDoor
