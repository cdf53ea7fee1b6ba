/- slices.Equal on lists that read alike; spec.Read.Open, spec.Word: contracts. -/
import Derived.Test.YtpcmiaablanmeaaGreatDoorRlaws
import Derived.Test.YtpcmiaablanmeaaGreatDoorTexts
import Derived.Laws.StructEq
import Derived.Deep.QuietTactic
import Derived.BigQuiet
namespace Go.Proofs.YtpcmiaablanmeaaGreatDoor
open Go.RowKit

/-- A slice of texts that reads as ts. -/
def TextsAt (w : World) (A : Option Addr) (ts : List ByteArray) : Prop := ∀ i, i < ts.length → ∃ b off, A = some ⟨b, off, none⟩ ∧ ∀ (j : Nat) s, ts[j]? = some s → w.cell? ⟨b, off + j, none⟩ = some (.string s)
theorem TextsIn.at {w : World} {B : Nat} {A : Option Addr} {ts : List ByteArray} (h : TextsIn w B A ts) : TextsAt w A ts := fun i hi => by
  obtain ⟨b, off, hA, _, hc⟩ := h i hi
  exact ⟨b, off, hA, hc⟩
theorem own_texts {w : World} {B : Nat} {a : Option Addr} {c : Nat} {ts : List ByteArray} (h : w.ownsRow B 9 1 (.slice a ts.length c) ts.length (ts.map Value.string)) : TextsAt w a ts := fun i hi => by
  rcases h.2 with ⟨h1, h0⟩ | ⟨g, cap, cur, h1, hb, hg, hn, hcap, hcs, htk⟩
  · omega
  · injection h1 with h2 _ _
    refine ⟨g, 0, h2, fun j s hj => ?_⟩
    have hl := (List.getElem?_eq_some_iff.1 hj).1
    have h3 := congrArg (fun l => l[j]?) htk
    simp only [Nat.mul_one] at h3
    rw [List.getElem?_take_of_lt hl, List.getElem?_map, hj, Array.getElem?_toList] at h3
    rw [Nat.zero_add]
    exact (cell_of_row w g j cur _ (0, 0) hg).trans h3

theorem equal_texts (a1 a2 : Option Addr) (c1 c2 : Nat) (ts : List ByteArray) (w : World) (h1 : TextsAt w a1 ts) (h2 : TextsAt w a2 ts) (hl : ts.length ≤ 100000) :
    Calls Tryz.prog 18 #[.slice a1 ts.length c1, .slice a2 ts.length c2] w fun e w' => e = .returned (.bool true) ∧ ∃ q, w' = w.drewN q := by
  rcases ts with _ | ⟨s, r⟩
  · refine (Tryz.slices_Equal_string_empty a1 a2 c1 0 c2 w (by omega)).mono ?_
    rintro e w' ⟨rfl, rfl⟩
    exact ⟨rfl, 0, rfl⟩
  · obtain ⟨b1, o1, rfl, k1⟩ := h1 0 (by simp)
    obtain ⟨b2, o2, rfl, k2⟩ := h2 0 (by simp)
    refine (Tryz.slices_Equal_string b1 o1 (s :: r).length c1 b2 o2 (s :: r).length c2 (s :: r) (s :: r) w (Nat.le_refl _) (Nat.le_refl _) (by omega) (by omega) (fun j hj => ?_) (fun j hj => ?_)).mono ?_
    · rw [k1 j _ (List.getElem?_eq_getElem hj), List.getD_eq_getElem?_getD, List.getElem?_eq_getElem hj]; rfl
    · rw [k2 j _ (List.getElem?_eq_getElem hj), List.getD_eq_getElem?_getD, List.getElem?_eq_getElem hj]; rfl
    · rintro e w' ⟨rfl, hq⟩
      exact ⟨ret_bool (by simp), hq⟩

/-- A slice of flags that reads as fs. -/
def FlagsRd (w : World) (A : Option Addr) (fs : List FD) : Prop := ∀ i, i < fs.length → ∃ b off, A = some ⟨b, off, none⟩ ∧ ∀ (j : Nat) f, fs[j]? = some f → FlagAt w b (off + j * 5) f
theorem FlagsIn.rd {w : World} {B : Nat} {A : Option Addr} {fs : List FD} (h : FlagsIn w B A fs) : FlagsRd w A fs := fun i hi => by
  obtain ⟨b, off, hA, _, hc⟩ := h i hi
  exact ⟨b, off, hA, hc⟩
theorem FlagAt.drewN {w : World} {b off : Nat} {f : FD} (h : FlagAt w b off f) (q : Nat) : FlagAt (w.drewN q) b off f := h

set_option maxHeartbeats 1000000 in
set_option maxRecDepth 100000 in
theorem equal_flags (a1 a2 : Option Addr) (c1 c2 : Nat) (fs : List FD) (w : World) (h1 : FlagsRd w a1 fs) (h2 : FlagsRd w a2 fs) (hl : fs.length ≤ 100000) :
    Calls Tryz.prog 17 #[.slice a1 fs.length c1, .slice a2 fs.length c2] w fun e w' => e = .returned (.bool true) ∧ ∃ q, w' = w.drewN q := by
  go_enter Tryz.func17, Tryz.ntmps17
  go_wp2
  go_loopw [13] (fun i wr => ∃ (k q : Nat), k ≤ fs.length ∧ i = .int .i64 k ∧ wr = w.drewN q) (fun i _ => fs.length - (intOf i).toNat)
  case atStart => exact ⟨0, 0, Nat.zero_le _, rfl, rfl⟩
  case round =>
    obtain ⟨k, q, hk, rfl, rfl⟩ := hrel
    by_cases hlt : k < fs.length
    · obtain ⟨b, off, rfl, hc⟩ := h1 k hlt
      obtain ⟨b2, off2, rfl, hc2⟩ := h2 k hlt
      have hf : fs[k]? = some fs[k] := List.getElem?_eq_getElem hlt
      obtain ⟨x0, x1, x2, x3, x4⟩ := (hc k _ hf).drewN q
      obtain ⟨y0, y1, y2, y3, y4⟩ := (hc2 k _ hf).drewN q
      clear hc hc2 h1 h2 hf
      generalize hW : w.drewN q = W at *
      have HW := hide hW
      clear hW
      go_upto_region 6 with fail
      go_quiet (fail)
      go_wp2_with fail
      go_roundw
      case rel => exact ⟨k + 1, q + nq, by omega, by go_num, by rw [← HW.out, World.drewN_drewN]⟩
      case measure => simp [intOf]; omega
    · clear h1 h2
      go_wp2_with fail
      go_ret
      exact ⟨rfl, q, rfl⟩

/-- A text that is no flag. -/
theorem word_any (s : ByteArray) (w : World) (hs : s.size ≤ 9223372036854775807) :
    Calls Tryz.prog 27 #[.string s] w fun e w' => e = .returned (.bool (decide (s.size < 2) || !hasB s 0 45)) ∧ w = w' := by
  by_cases h2 : s.size < 2
  · have d2 : decide ((s.size : Int) < 2) = true := by simp; omega
    go_enter Tryz.func27, Tryz.ntmps27
    go_wp2
    go_ret
    exact ⟨ret_bool (by simp [h2]), rfl⟩
  · have d2 : decide ((s.size : Int) < 2) = false := by simp; omega
    have h0 : 0 < s.size := by omega
    have hb := hasB_lt h0 45
    have HB := hide hb
    clear hb
    cases hz : ((s[0].toNat : Int) == 45) with
    | true =>
      have n45 : ((s[0].toNat : Int) != 45) = false := by rw [bne, hz]; rfl
      have HZ := hide hz
      clear hz
      go_enter Tryz.func27, Tryz.ntmps27
      go_wp2
      go_ret
      exact ⟨ret_bool (by rw [HB.out]; have := HZ.out; simp at this ⊢; omega), rfl⟩
    | false =>
      have n45 : ((s[0].toNat : Int) != 45) = true := by rw [bne, hz]; rfl
      have HZ := hide hz
      clear hz
      go_enter Tryz.func27, Tryz.ntmps27
      go_wp2
      go_ret
      exact ⟨ret_bool (by rw [HB.out]; have := HZ.out; simp at this ⊢; omega), rfl⟩

def OpenPost (st : Int) (said ended : Bool) (rn : Nat) (w : World) (e : Ending) (w' : World) : Prop := (∃ b : Bool, e = .returned (.bool b) ∧ (b = true → st = 0 ∧ said = true ∧ ended = false ∧ rn = 0)) ∧ Below w.heap.size w w'

set_option maxRecDepth 100000 in
/-- spec.Read.Open: yes only where all is read, no error, and no argument is left. -/
theorem open_any (fa na ra : Option Addr) (fn fc nn nc rn rc : Nat) (st bad : Int) (said ended : Bool) (w : World) :
    Calls Tryz.prog 26 #[.agg (readCells (.slice fa fn fc) (.slice na nn nc) (.slice ra rn rc) st bad said ended)] w (OpenPost st said ended rn w) := by
  unfold readCells
  cases said with
  | false =>
    go_enter Tryz.func26, Tryz.ntmps26
    go_wp2
    go_ret
    exact ⟨⟨false, rfl, (fun h => by cases h)⟩, (Below.refl _ _).alloc (Nat.le_refl _) _⟩
  | true =>
    cases ended with
    | true =>
      go_enter Tryz.func26, Tryz.ntmps26
      go_wp2
      go_ret
      exact ⟨⟨false, rfl, (fun h => by cases h)⟩, (Below.refl _ _).alloc (Nat.le_refl _) _⟩
    | false =>
      by_cases h0 : st = 0
      · subst h0
        by_cases h1 : rn = 0
        · subst h1
          go_enter Tryz.func26, Tryz.ntmps26
          go_wp2
          go_ret
          exact ⟨⟨true, rfl, fun _ => ⟨rfl, rfl, rfl, rfl⟩⟩, (Below.refl _ _).alloc (Nat.le_refl _) _⟩
        · have q1 : ((rn : Int) == 0) = false := by simp; omega
          go_enter Tryz.func26, Tryz.ntmps26
          go_wp2
          go_ret
          exact ⟨⟨false, rfl, (fun h => by cases h)⟩, (Below.refl _ _).alloc (Nat.le_refl _) _⟩
      · have q0 : (st == 0) = false := by simpa using h0
        clear h0
        go_enter Tryz.func26, Tryz.ntmps26
        go_wp2
        go_ret
        exact ⟨⟨false, rfl, (fun h => by cases h)⟩, (Below.refl _ _).alloc (Nat.le_refl _) _⟩
end Go.Proofs.YtpcmiaablanmeaaGreatDoor
