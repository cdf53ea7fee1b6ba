/- That the argument's sizes fit is told by zzFits1, zzFits2: contracts. -/
import Derived.Test.YtpcmiaablanmeaaGreatDoorWords
namespace Go.Proofs.YtpcmiaablanmeaaGreatDoor
open Go.RowKit

def fit2 (f : FD) : Bool := decide (f.name.size ≤ 2147483647) && decide (f.text.size ≤ 2147483647)
def fits1 (fs : List FD) : Bool := decide (fs.length ≤ 2147483647) && fs.all fit2

set_option maxHeartbeats 400000 in
theorem zzFits2_any (f : FD) (w : World) (hf : f.Ok) :
    Calls Tryz.prog 29 #[.agg f.val] w fun e w' => e = .returned (.bool (fit2 f)) ∧ Below w.heap.size w w' := by
  obtain ⟨s, k, b, n, t⟩ := f
  have hs := hf.name
  have ht := hf.text
  clear hf
  unfold FD.val
  simp only at hs ht ⊢
  by_cases h1 : s.size ≤ 2147483647
  · by_cases h2 : t.size ≤ 2147483647
    · go_enter Tryz.func29, Tryz.ntmps29
      go_wp2
      go_ret
      exact ⟨ret_bool (by simp [fit2, h1, h2]), (Below.refl _ _).alloc (Nat.le_refl _) _⟩
    · go_enter Tryz.func29, Tryz.ntmps29
      go_wp2
      go_ret
      exact ⟨ret_bool (by simp [fit2, h2]), (Below.refl _ _).alloc (Nat.le_refl _) _⟩
  · go_enter Tryz.func29, Tryz.ntmps29
    go_wp2
    go_ret
    exact ⟨ret_bool (by simp [fit2, h1]), (Below.refl _ _).alloc (Nat.le_refl _) _⟩

theorem fits1_snoc (fs : List FD) (k : Nat) (f : FD) (hf : fs[k]? = some f) (h : (fs.take k).all fit2 = true) : (fs.take (k + 1)).all fit2 = fit2 f := by
  rw [List.take_add_one, hf]
  simp [List.all_append, h]

set_option maxHeartbeats 400000 in
theorem zzFits1_any (A : Option Addr) (c : Nat) (fs : List FD) (w : World) (hl : fs.length ≤ 9223372036854775807) (hin : FlagsIn w w.heap.size A fs) (hok : ∀ f ∈ fs, f.Ok) :
    Calls Tryz.prog 10 #[.slice A fs.length c] w fun e w' => e = .returned (.bool (fits1 fs)) ∧ Below w.heap.size w w' := by
  by_cases h1 : fs.length ≤ 2147483647
  · go_enter Tryz.func10, Tryz.ntmps10
    go_wp2
    go_loopw [10] (fun i wr => ∃ k : Nat, k ≤ fs.length ∧ i = .int .i64 k ∧ (fs.take k).all fit2 = true ∧ Below w.heap.size w wr) (fun i _ => fs.length - (intOf i).toNat)
    case atStart => exact ⟨0, by omega, rfl, by simp, Below.refl _ _⟩
    case round =>
      obtain ⟨k, hk, rfl, hall, hb⟩ := hrel
      by_cases hlt : k < fs.length
      · obtain ⟨b, off, rfl, hB, hc⟩ := hin k hlt
        have hf : fs[k]? = some fs[k] := List.getElem?_eq_getElem hlt
        obtain ⟨c0, c1, c2, c3, c4⟩ := (hc k _ hf).below hb hB
        have hfok := hok _ (List.getElem_mem hlt)
        have hsz := hb.size
        clear hc hin hok
        by_cases h2 : fit2 fs[k] = true
        · go_wp2_with (go_at_call 29; refine (zzFits2_any fs[k] _ hfok).mono ?_; rintro e w' ⟨rfl, hb2⟩)
          go_roundw
          case rel => exact ⟨k + 1, by omega, by go_num, by rw [fits1_snoc fs k _ hf hall, h2], below_box hb hsz hb2⟩
          case measure => simp [intOf]; omega
        · have h2' : fit2 fs[k] = false := by simpa using h2
          go_wp2_with (go_at_call 29; refine (zzFits2_any fs[k] _ hfok).mono ?_; rintro e w' ⟨rfl, hb2⟩)
          go_ret
          exact ⟨ret_bool (by rw [fits1, Bool.and_eq_false_iff.2 (.inr (List.all_eq_false.2 ⟨fs[k], List.getElem_mem hlt, by simp [h2']⟩))]), below_box hb hsz hb2⟩
      · obtain rfl : k = fs.length := by omega
        go_wp2
        go_ret
        exact ⟨ret_bool (by rw [List.take_length] at hall; simp [fits1, hall, h1]), hb⟩
  · go_enter Tryz.func10, Tryz.ntmps10
    go_wp2
    go_ret
    exact ⟨ret_bool (by simp [fits1, h1]), Below.refl _ _⟩
end Go.Proofs.YtpcmiaablanmeaaGreatDoor
