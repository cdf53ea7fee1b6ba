/- Slices of texts that came in; laws.zzFits3, spec.Short: contracts. -/
import Derived.Test.YtpcmiaablanmeaaGreatDoorMem
namespace Go.Proofs.YtpcmiaablanmeaaGreatDoor
open Go.RowKit

theorem Off.cell_ {S : Nat → Prop} {w w' : World} {p : Addr} (h : Off S w w') (hp : p.block < w.heap.size) (hn : ¬ S p.block) : w'.cell? p = w.cell? p := by
  unfold World.cell?
  rw [h.block p.block hp hn]

/-- A slice of texts whose elements read as ts; it lies below block B. -/
def TextsIn (w : World) (B : Nat) (A : Option Addr) (ts : List ByteArray) : Prop :=
  ∀ i, i < ts.length → ∃ b off, A = some ⟨b, off, none⟩ ∧ b < B ∧ ∀ j s, ts[j]? = some s → w.cell? ⟨b, off + j, none⟩ = some (.string s)

theorem TextsIn.off {w w' : World} {B : Nat} {S : Nat → Prop} {A : Option Addr} {ts : List ByteArray} (h : TextsIn w B A ts) (ho : Off S w w') (hB : B ≤ w.heap.size) (hs : ∀ j, j < B → ¬ S j) : TextsIn w' B A ts := fun i hi => by
  obtain ⟨b, off, hA, hlt, hc⟩ := h i hi
  exact ⟨b, off, hA, hlt, fun j s hj => (Off.cell_ ho (p := ⟨b, off + j, none⟩) (by simp; omega) (hs b hlt)).trans (hc j s hj)⟩

theorem TextsIn.tail {w : World} {B b off : Nat} {s : ByteArray} {r : List ByteArray} (h : TextsIn w B (some ⟨b, off, none⟩) (s :: r)) (cap : Nat) (hc : (s :: r).length ≤ cap) : TextsIn w B (if cap = 1 then some ⟨b, off, none⟩ else some ⟨b, off + 1, none⟩) r := fun i hi => by
  rw [List.length_cons] at hc
  obtain ⟨b', off', hA, hlt, hcell⟩ := h 0 (by simp)
  cases hA
  rw [if_neg (by omega)]
  exact ⟨b, off + 1, rfl, hlt, fun j s' hj => by
    have := hcell (j + 1) s' (by simpa using hj)
    rw [Nat.add_assoc, Nat.add_comm 1 j]
    exact this⟩


theorem TextsIn.below {w w' : World} {B : Nat} {A : Option Addr} {ts : List ByteArray} (h : TextsIn w B A ts) (hb : Below B w w') : TextsIn w' B A ts := fun i hi => by
  obtain ⟨b, off, hA, hlt, hc⟩ := h i hi
  exact ⟨b, off, hA, hlt, fun j s hj => (hb.cell hlt).trans (hc j s hj)⟩
theorem TextsIn.mono {w : World} {B B' : Nat} {A : Option Addr} {ts : List ByteArray} (h : TextsIn w B A ts) (hB : B ≤ B') : TextsIn w B' A ts := fun i hi => by
  obtain ⟨b, off, hA, hlt, hc⟩ := h i hi
  exact ⟨b, off, hA, Nat.lt_of_lt_of_le hlt hB, hc⟩

/-- The first k texts are short. -/
def ShortTo (ts : List ByteArray) (k : Nat) : Prop := ∀ (j : Nat) s, j < k → ts[j]? = some s → s.size ≤ 1048576

def ShortPost (ts : List ByteArray) (w : World) (e : Ending) (w' : World) : Prop := ∃ b : Bool, e = .returned (.bool b) ∧ (b = true → ts.length ≤ 1000 ∧ ∀ s ∈ ts, s.size ≤ 1048576) ∧ w = w'

theorem ShortTo.all {ts : List ByteArray} (h : ShortTo ts ts.length) : ∀ s ∈ ts, s.size ≤ 1048576 := fun s hs => by
  obtain ⟨j, hj, rfl⟩ := List.mem_iff_getElem.1 hs
  exact h j _ hj (List.getElem?_eq_getElem hj)

set_option maxHeartbeats 400000 in
theorem short_any (A : Option Addr) (c : Nat) (ts : List ByteArray) (w : World) (hl : ts.length ≤ 9223372036854775807) (hin : TextsIn w w.heap.size A ts) :
    Calls Tryz.prog 22 #[.slice A ts.length c] w (ShortPost ts w) := by
  go_enter Tryz.func22, Tryz.ntmps22
  go_wp2
  go_loop [7] (fun i => ∃ k : Nat, k ≤ ts.length ∧ i = .int .i64 k ∧ ShortTo ts k) (fun i => ts.length - (intOf i).toNat)
  case atStart => exact ⟨0, Nat.zero_le _, rfl, fun j s hj => absurd hj (by omega)⟩
  case round =>
    obtain ⟨k, hk, rfl, hto⟩ := hrel
    by_cases hlt : k < ts.length
    · obtain ⟨b, off, rfl, hB, hc⟩ := hin k hlt
      have hs : ts[k]? = some ts[k] := List.getElem?_eq_getElem hlt
      have c0 : w.cell? ⟨b, off + k, none⟩ = some (.string ts[k]) := hc k _ hs
      clear hc hin
      by_cases hz : ts[k].size ≤ 1048576
      · have hn := hide (show ShortTo ts (k + 1) from fun j s hj hjs => by
          by_cases e : j = k
          · subst e; rw [hs] at hjs; cases hjs; exact hz
          · exact hto j s (by omega) hjs)
        clear hs hto
        have hd : decide ((1048576 : Int) < (ts[k].size : Int)) = false := by simp; omega
        go_wp2
        go_round
        case rel => exact ⟨k + 1, by omega, by go_num, hn.out⟩
        case measure => simp [intOf]; omega
      · have hd : decide ((1048576 : Int) < (ts[k].size : Int)) = true := by simp; omega
        clear hs hto
        go_wp2
        go_ret
        exact ⟨false, rfl, (fun h => by cases h), rfl⟩
    · obtain rfl : k = ts.length := by omega
      have HT := hide hto
      clear hto hin
      go_wp2
      go_ret
      exact ⟨_, rfl, fun h => ⟨by simp at h; omega, HT.out.all⟩, rfl⟩

def AnyBool (w : World) (e : Ending) (w' : World) : Prop := ∃ b : Bool, e = .returned (.bool b) ∧ w = w'

set_option maxHeartbeats 400000 in
theorem zzFits3_any (A : Option Addr) (c : Nat) (ts : List ByteArray) (w : World) (hl : ts.length ≤ 9223372036854775807) (hin : TextsIn w w.heap.size A ts) :
    Calls Tryz.prog 21 #[.slice A ts.length c] w (AnyBool w) := by
  by_cases h1 : ts.length ≤ 2147483647
  · go_enter Tryz.func21, Tryz.ntmps21
    go_wp2
    go_loop [10] (fun i => ∃ k : Nat, k ≤ ts.length ∧ i = .int .i64 k) (fun i => ts.length - (intOf i).toNat)
    case atStart => exact ⟨0, Nat.zero_le _, rfl⟩
    case round =>
      obtain ⟨k, hk, rfl⟩ := hrel
      by_cases hlt : k < ts.length
      · obtain ⟨b, off, rfl, hB, hc⟩ := hin k hlt
        have c0 : w.cell? ⟨b, off + k, none⟩ = some (.string ts[k]) := hc k _ (List.getElem?_eq_getElem hlt)
        clear hc hin
        by_cases hz : ts[k].size ≤ 2147483647
        · have hd : decide ((2147483647 : Int) < (ts[k].size : Int)) = false := by simp; omega
          go_wp2
          go_round
          case rel => exact ⟨k + 1, by omega, by go_num⟩
          case measure => simp [intOf]; omega
        · have hd : decide ((2147483647 : Int) < (ts[k].size : Int)) = true := by simp; omega
          go_wp2
          go_ret
          exact ⟨_, rfl, rfl⟩
      · obtain rfl : k = ts.length := by omega
        clear hin
        go_wp2
        go_ret
        exact ⟨_, rfl, rfl⟩
  · clear hin
    go_enter Tryz.func21, Tryz.ntmps21
    go_wp2
    go_ret
    exact ⟨_, rfl, rfl⟩
end Go.Proofs.YtpcmiaablanmeaaGreatDoor
