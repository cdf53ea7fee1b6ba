/- FlagSet.parseOne where no flag comes: contracts. -/
import Derived.Test.YtpcmiaablanmeaaGreatDoorPMove
namespace Go.Proofs.YtpcmiaablanmeaaGreatDoor
open Go.RowKit Go.Maps

section
variable {w : World} {B sb fb : Nat} {es0 es : List Ent} {u act mv sl vb vn vt : Value} {A : Option Addr} {c : Nat} {ak : List (ByteArray × Nat)} {ss : List ByteArray}

def EndPost (w : World) (e : Ending) (w' : World) : Prop := e = .returned (.tuple #[.bool false, .nilIface]) ∧ w = w'

set_option maxHeartbeats 1000000 in
set_option maxRecDepth 100000 in
theorem parseOne_stop {L : List ByteArray} (h : PS w B sb fb es0 es u act mv sl vb vn vt A L c ak ss) (hsz : ∀ s ∈ L, s.size ≤ 9223372036854775807) (hs : StopAt L) :
    Calls Tryz.prog 52 #[.pointer (some ⟨fb, 0, none⟩)] w (EndPost w) := by
  have f5 : w.cell? ⟨fb, 5, none⟩ = some (.slice A L.length c) := h.set.fset.cell 5
  rcases L with _ | ⟨s, r⟩
  · clear h hsz hs
    go_enter Tryz.func52, Tryz.ntmps52
    go_wp2_with fail
    go_ret2
    exact ⟨rfl, rfl⟩
  · obtain ⟨ab, off, rfl, c0⟩ := h.args.cell
    have hz := hsz s (by simp)
    have hcap := h.cap
    simp only [List.length_cons] at hcap f5
    have hlp : ((((r.length + 1 : Nat) : Int)) == 0) = false := by simp; omega
    have hss := hs s r rfl
    clear h hsz hs
    by_cases h2 : s.size < 2
    · have d2 : decide ((s.size : Int) < 2) = true := by simp; omega
      clear hss
      go_enter Tryz.func52, Tryz.ntmps52
      go_wp2_with fail
      go_ret2
      exact ⟨rfl, rfl⟩
    · have d2 : decide ((s.size : Int) < 2) = false := by simp; omega
      have h0 : 0 < s.size := by omega
      have hb : hasB s 0 45 = false := by
        rcases hss with h | h
        · exact absurd h h2
        · exact h
      have n45 : ((s[0].toNat : Int) == 45) = false := by rw [hasB_lt h0] at hb; exact hb
      have n45' : ((s[0].toNat : Int) != 45) = true := by rw [bne, n45]; rfl
      clear hss hb n45
      go_enter Tryz.func52, Tryz.ntmps52
      go_wp2_with fail
      go_ret2
      exact ⟨rfl, rfl⟩

def TermPost (w : World) (B sb fb : Nat) (es0 es : List Ent) (u act mv sl vb vn vt : Value) (rest : List ByteArray) (ak : List (ByteArray × Nat)) (ss : List ByteArray) (e : Ending) (w' : World) : Prop :=
  e = .returned (.tuple #[.bool false, .nilIface]) ∧ ∃ A' c', PS w' B sb fb es0 es u act mv sl vb vn vt A' rest c' ak ss ∧ Off (fun j => B ≤ j) w w'

set_option maxHeartbeats 1000000 in
set_option maxRecDepth 100000 in
theorem parseOne_term {s : ByteArray} {rest : List ByteArray} (h : PS w B sb fb es0 es u act mv sl vb vn vt A (s :: rest) c ak ss) (hs : s = ⟨#[45, 45]⟩) :
    Calls Tryz.prog 52 #[.pointer (some ⟨fb, 0, none⟩)] w (TermPost w B sb fb es0 es u act mv sl vb vn vt rest ak ss) := by
  have f5 : w.cell? ⟨fb, 5, none⟩ = some (.slice A (s :: rest).length c) := h.set.fset.cell 5
  have z5 := h.set.fset.frozen 5
  obtain ⟨ab, off, rfl, c0⟩ := h.args.cell
  have hcap := h.cap
  simp only [List.length_cons] at hcap f5
  have hlp : ((((rest.length + 1 : Nat) : Int)) == 0) = false := by simp; omega
  have hle1 : (1 : Int) ≤ (rest.length : Int) + 1 := by omega
  have h1 : 1 < s.size := by subst hs; decide
  have h0 : 0 < s.size := by omega
  have h2 : ((s.size : Int) == 2) = true := by subst hs; rfl
  have d2 : decide ((s.size : Int) < 2) = false := by subst hs; rfl
  have n45' : (((s[0]'h0).toNat : Int) != 45) = false := by subst hs; rfl
  have m45 : (((s[1]'h1).toNat : Int) == 45) = true := by subst hs; rfl
  have h2' : s.size ≤ 9223372036854775807 := by subst hs; decide
  have HP := hide h.advance
  have HO := hide ((Off.refl (fun j => B ≤ j) w).setCell (p := ⟨fb, 5, none⟩) (fun _ => h.set.fsetB) (.slice (if c = 1 then some ⟨ab, off, none⟩ else some ⟨ab, off + 1, none⟩) rest.length (c - 1)))
  clear h hs
  go_enter Tryz.func52, Tryz.ntmps52
  go_upto_region 11 with fail
  obtain ⟨At, hAt⟩ : ∃ At, At = (if c = 1 then some (⟨ab, off, none⟩ : Addr) else some ⟨ab, off + 1, none⟩) := ⟨_, rfl⟩
  rw [← hAt] at HP HO ⊢
  clear hAt c0 f5 z5
  go_wp2_with fail
  go_ret2
  exact ⟨rfl, _, _, HP.out, HO.out⟩
end
end Go.Proofs.YtpcmiaablanmeaaGreatDoor
