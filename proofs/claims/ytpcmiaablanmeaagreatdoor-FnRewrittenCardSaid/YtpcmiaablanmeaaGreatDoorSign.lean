/- spec.Sign returns where the first equals sign of a text stands, spec.Find the number of the flag with a name: contracts. -/
import Derived.Test.YtpcmiaablanmeaaGreatDoorWords
namespace Go.Proofs.YtpcmiaablanmeaaGreatDoor
open Go.RowKit

/-- Where a text's first equals sign stands, or -1. -/
def signOf (s : ByteArray) : Int := match s.data.toList.findIdx? (· == 61) with
  | some i => i
  | none => -1

theorem signOf_hit (s : ByteArray) (k : Nat) (hk : k < s.size) (h : s[k] = 61) (hb : ∀ j, j < k → ∀ hj : j < s.size, s[j] ≠ 61) : signOf s = k := by
  have e : s.data.toList.findIdx? (· == 61) = some k := by
    rw [List.findIdx?_eq_some_iff_getElem]
    refine ⟨by simpa using hk, by simpa using (show s.data[k] = 61 from h), fun j hj => ?_⟩
    have hjs : j < s.size := by omega
    simpa using (show ¬ s.data[j] = 61 from hb j hj hjs)
  unfold signOf
  rw [e]
theorem signOf_none (s : ByteArray) (hb : ∀ j, ∀ hj : j < s.size, s[j] ≠ 61) : signOf s = -1 := by
  have e : s.data.toList.findIdx? (· == 61) = none := by
    rw [List.findIdx?_eq_none_iff]
    intro x hx
    obtain ⟨j, hj, rfl⟩ := List.mem_iff_getElem.1 hx
    have hjs : j < s.size := by simpa using hj
    simpa using (show ¬ s.data[j] = 61 from hb j hjs)
  unfold signOf
  rw [e]

def NoSign (s : ByteArray) (k : Nat) : Prop := ∀ j, j < k → ∀ hj : j < s.size, s[j] ≠ 61

set_option maxHeartbeats 400000 in
theorem sign_any (s : ByteArray) (w : World) (hs : s.size ≤ 9223372036854775807) :
    Calls Tryz.prog 31 #[.string s] w fun e w' => e = .returned (.int .i64 (signOf s)) ∧ w = w' := by
  go_enter Tryz.func31, Tryz.ntmps31
  go_wp2
  go_loop [3] (fun i => ∃ k : Nat, k ≤ s.size ∧ i = .int .i64 k ∧ NoSign s k) (fun i => s.size - (intOf i).toNat)
  case atStart => exact ⟨0, Nat.zero_le _, rfl, fun j hj => absurd hj (by omega)⟩
  case round =>
    obtain ⟨k, hk, rfl, hno⟩ := hrel
    by_cases hlt : k < s.size
    · by_cases h61 : s[k] = 61
      · have hb : ((s[k].toNat : Int) == 61) = true := by simp [h61]
        have hH := hide (signOf_hit s k hlt h61 hno)
        clear h61 hno
        go_wp2
        go_ret
        exact ⟨ret_int (by rw [hH]), rfl⟩
      · have hb : ((s[k].toNat : Int) == 61) = false := by
          have : s[k].toNat ≠ 61 := fun e => h61 (by rw [← UInt8.toNat_inj, e]; rfl)
          simp; omega
        have hn : NoSign s (k + 1) := fun j hj hjs => by
          by_cases e : j = k
          · subst e; exact h61
          · exact hno j (by omega) hjs
        clear h61 hno
        go_wp2
        go_round
        case rel => exact ⟨k + 1, by omega, by go_num, hn⟩
        case measure => simp [intOf]; omega
    · have hH := hide (signOf_none s (fun j hj => hno j (by omega) hj))
      clear hno
      go_wp2
      go_ret
      exact ⟨ret_int (by rw [hH]), rfl⟩

/-- The number of the flag with a name, or -1. -/
def findOf (fs : List FD) (name : ByteArray) : Int := match fs.findIdx? (fun f => decide (f.name = name)) with
  | some i => i
  | none => -1
def NoName (fs : List FD) (name : ByteArray) (k : Nat) : Prop := ∀ j f, j < k → fs[j]? = some f → f.name ≠ name

theorem findOf_hit (fs : List FD) (name : ByteArray) (k : Nat) (f : FD) (hf : fs[k]? = some f) (h : f.name = name) (hb : NoName fs name k) : findOf fs name = k := by
  obtain ⟨hk, rfl⟩ := List.getElem?_eq_some_iff.1 hf
  have e : fs.findIdx? (fun f => decide (f.name = name)) = some k := by
    rw [List.findIdx?_eq_some_iff_getElem]
    exact ⟨hk, by simpa using h, fun j hj => by simpa using hb j _ hj (List.getElem?_eq_getElem (by omega))⟩
  unfold findOf
  rw [e]
theorem findOf_none (fs : List FD) (name : ByteArray) (hb : NoName fs name fs.length) : findOf fs name = -1 := by
  have e : fs.findIdx? (fun f => decide (f.name = name)) = none := by
    rw [List.findIdx?_eq_none_iff]
    intro x hx
    obtain ⟨j, hj, rfl⟩ := List.mem_iff_getElem.1 hx
    simpa using hb j _ hj (List.getElem?_eq_getElem hj)
  unfold findOf
  rw [e]

set_option maxHeartbeats 400000 in
theorem find_any (A : Option Addr) (c : Nat) (fs : List FD) (name : ByteArray) (w : World) (hl : fs.length ≤ 9223372036854775807) (hin : FlagsIn w w.heap.size A fs) :
    Calls Tryz.prog 14 #[.slice A fs.length c, .string name] w fun e w' => e = .returned (.int .i64 (findOf fs name)) ∧ Below w.heap.size w w' := by
  go_enter Tryz.func14, Tryz.ntmps14
  go_wp2
  go_loopw [9] (fun i wr => ∃ k : Nat, k ≤ fs.length ∧ i = .int .i64 k ∧ NoName fs name k ∧ Below w.heap.size w wr) (fun i _ => fs.length - (intOf i).toNat)
  case atStart => exact ⟨0, by omega, rfl, fun j _ hj => absurd hj (by omega), Below.refl _ _⟩
  case round =>
    obtain ⟨k, hk, rfl, hno, hb⟩ := hrel
    by_cases hlt : k < fs.length
    · obtain ⟨b, off, rfl, hB, hc⟩ := hin k hlt
      have hf : fs[k]? = some fs[k] := List.getElem?_eq_getElem hlt
      obtain ⟨c0, c1, c2, c3, c4⟩ := (hc k _ hf).below hb hB
      have hsz := hb.size
      clear hc hin
      by_cases he : fs[k].name = name
      · have hq := str_eqb he
        have hH := hide (findOf_hit fs name k _ hf he hno)
        clear he hno
        go_wp2
        go_ret
        exact ⟨ret_int (by rw [hH]), hb.alloc hsz _⟩
      · have hq := str_neb he
        have hn : NoName fs name (k + 1) := fun j f hj hjf => by
          by_cases e : j = k
          · subst e; rw [hf] at hjf; cases hjf; exact he
          · exact hno j f (by omega) hjf
        clear he hno
        go_wp2
        go_roundw
        case rel => exact ⟨k + 1, by omega, by go_num, hn, hb.alloc hsz _⟩
        case measure => simp [intOf]; omega
    · obtain rfl : k = fs.length := by omega
      have hH := hide (findOf_none fs name hno)
      clear hno
      go_wp2
      go_ret
      exact ⟨ret_int (by rw [hH]), hb⟩
end Go.Proofs.YtpcmiaablanmeaaGreatDoor
