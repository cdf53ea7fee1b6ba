/- spec.digit: the value of a digit. -/
import Derived.Test.YtpcmiaablanmeaaGreatDoorWords
namespace Go.Proofs.YtpcmiaablanmeaaGreatDoor
open Go.RowKit

/-- The value of a digit, or 99. -/
def digN (c : Nat) : Nat := if 48 ≤ c ∧ c ≤ 57 then c - 48 else if 97 ≤ c ∧ c ≤ 102 then c - 97 + 10 else if 65 ≤ c ∧ c ≤ 70 then c - 65 + 10 else 99

theorem digN_le (c : Nat) : digN c ≤ 99 := by
  unfold digN
  split
  · omega
  · split
    · omega
    · split <;> omega

theorem digit_any (c : Nat) (hc : c < 256) (w : World) :
    Calls Tryz.prog 67 #[.int .u8 c] w fun e w' => e = .returned (.int .i64 (digN c)) ∧ w = w' := by
  have hd : digN c = digN c := rfl
  generalize hr : digN c = r at hd ⊢
  unfold digN at hr
  clear hd
  by_cases a1 : 48 ≤ c
  · have b1 : decide ((48 : Int) ≤ (c : Int)) = true := by simp; omega
    by_cases a2 : c ≤ 57
    · have b2 : decide ((c : Int) ≤ (57 : Int)) = true := by simp; omega
      rw [if_pos ⟨a1, a2⟩] at hr
      go_enter Tryz.func67, Tryz.ntmps67
      go_wp2
      go_ret
      exact ⟨ret_int (by omega), rfl⟩
    · have b2 : decide ((c : Int) ≤ (57 : Int)) = false := by simp; omega
      rw [if_neg (by omega)] at hr
      by_cases a3 : 97 ≤ c
      · have b3 : decide ((97 : Int) ≤ (c : Int)) = true := by simp; omega
        by_cases a4 : c ≤ 102
        · have b4 : decide ((c : Int) ≤ (102 : Int)) = true := by simp; omega
          rw [if_pos ⟨a3, a4⟩] at hr
          go_enter Tryz.func67, Tryz.ntmps67
          go_wp2
          go_ret
          exact ⟨ret_int (by omega), rfl⟩
        · have b4 : decide ((c : Int) ≤ (102 : Int)) = false := by simp; omega
          have b5 : decide ((65 : Int) ≤ (c : Int)) = true := by simp; omega
          have b6 : decide ((c : Int) ≤ (70 : Int)) = false := by simp; omega
          rw [if_neg (by omega), if_neg (by omega)] at hr
          go_enter Tryz.func67, Tryz.ntmps67
          go_wp2
          go_ret
          exact ⟨ret_int (by omega), rfl⟩
      · have b3 : decide ((97 : Int) ≤ (c : Int)) = false := by simp; omega
        rw [if_neg (by omega)] at hr
        by_cases a5 : 65 ≤ c
        · have b5 : decide ((65 : Int) ≤ (c : Int)) = true := by simp; omega
          by_cases a6 : c ≤ 70
          · have b6 : decide ((c : Int) ≤ (70 : Int)) = true := by simp; omega
            rw [if_pos ⟨a5, a6⟩] at hr
            go_enter Tryz.func67, Tryz.ntmps67
            go_wp2
            go_ret
            exact ⟨ret_int (by omega), rfl⟩
          · have b6 : decide ((c : Int) ≤ (70 : Int)) = false := by simp; omega
            rw [if_neg (by omega)] at hr
            go_enter Tryz.func67, Tryz.ntmps67
            go_wp2
            go_ret
            exact ⟨ret_int (by omega), rfl⟩
        · have b5 : decide ((65 : Int) ≤ (c : Int)) = false := by simp; omega
          rw [if_neg (by omega)] at hr
          go_enter Tryz.func67, Tryz.ntmps67
          go_wp2
          go_ret
          exact ⟨ret_int (by omega), rfl⟩
  · have b1 : decide ((48 : Int) ≤ (c : Int)) = false := by simp; omega
    have b3 : decide ((97 : Int) ≤ (c : Int)) = false := by simp; omega
    have b5 : decide ((65 : Int) ≤ (c : Int)) = false := by simp; omega
    rw [if_neg (by omega), if_neg (by omega), if_neg (by omega)] at hr
    go_enter Tryz.func67, Tryz.ntmps67
    go_wp2
    go_ret
    exact ⟨ret_int (by omega), rfl⟩
end Go.Proofs.YtpcmiaablanmeaaGreatDoor
