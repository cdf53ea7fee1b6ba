/- What a text of a number is, in plain words. No program is looked at. -/
import Derived.Test.YtpcmiaablanmeaaGreatDoorDigit
namespace Go.Proofs.YtpcmiaablanmeaaGreatDoor
open Go.RowKit

/-- Byte i of s is c. -/
def hasB (s : ByteArray) (i : Nat) (c : UInt8) : Bool := s.data.toList[i]? == some c
theorem hasB_lt {s : ByteArray} {i : Nat} (h : i < s.size) (c : UInt8) : hasB s i c = ((s[i].toNat : Int) == (c.toNat : Int)) := by
  have e : s.data.toList[i]? = some s[i] := by
    rw [Array.getElem?_toList]
    exact Array.getElem?_eq_getElem h
  unfold hasB
  rw [e]
  by_cases hc : s[i] = c
  · subst hc; simp
  · have h1 : (some s[i] == some c) = false := by simpa using hc
    have h2 : s[i].toNat ≠ c.toNat := fun e => hc (UInt8.toNat_inj.1 e)
    have h3 : ((s[i].toNat : Int) == (c.toNat : Int)) = false := by simp; omega
    rw [h1, h3]
theorem hasB_ge {s : ByteArray} {i : Nat} (h : s.size ≤ i) (c : UInt8) : hasB s i c = false := by
  unfold hasB
  rw [Array.getElem?_toList, Array.getElem?_eq_none h]
  rfl
theorem hasB_size {s : ByteArray} {i : Nat} {c : UInt8} (h : hasB s i c = true) : i < s.size := by
  rcases Nat.lt_or_ge i s.size with h1 | h1
  · exact h1
  · rw [hasB_ge h1] at h; cases h

def minusB (s : ByteArray) : Bool := hasB s 0 45
def plusB (s : ByteArray) : Bool := hasB s 0 43
/-- The text behind a sign. -/
def stripN (s : ByteArray) : ByteArray := if minusB s || plusB s then s.extract 1 s.size else s
def isX (t : ByteArray) : Bool := hasB t 0 48 && (hasB t 1 120 || hasB t 1 88)
def isBO (t : ByteArray) : Bool := hasB t 0 48 && (hasB t 1 98 || hasB t 1 66 || hasB t 1 111 || hasB t 1 79)
def isO (t : ByteArray) : Bool := decide (1 < t.size) && hasB t 0 48

/-- The value of the first k digits. -/
def valN (base : Nat) (u : ByteArray) : Nat → Nat
  | 0 => 0
  | k + 1 => valN base u k * base + (if h : k < u.size then digN u[k].toNat else 0)

/-- u is a row of digits of a base; V is its value. -/
structure Tail (base : Nat) (u : ByteArray) (V : Nat) : Prop where
  digs : ∀ k, ∀ hk : k < u.size, digN u[k].toNat < base
  val : V = valN base u u.size
  le : V ≤ 9223372036854775808
  some : 0 < u.size

/-- The base and the digits of a text without its sign. -/
def BaseOf (t : ByteArray) (base : Nat) (u : ByteArray) : Prop :=
  (isX t = true ∧ base = 16 ∧ u = t.extract 2 t.size) ∨ (isX t = false ∧ isBO t = false ∧ isO t = true ∧ base = 8 ∧ u = t.extract 1 t.size) ∨ (isX t = false ∧ isBO t = false ∧ isO t = false ∧ base = 10 ∧ u = t)

/-- n is the value of the text s. -/
def NumOk (s : ByteArray) (n : Int) : Prop :=
  (∀ k, ∀ hk : k < s.size, s[k] ≠ 95) ∧ ∃ base u V, BaseOf (stripN s) base u ∧ Tail base u V ∧ ((minusB s = true ∧ n = -(V : Int)) ∨ (minusB s = false ∧ n = V ∧ V < 9223372036854775808))

theorem valN_mono (base : Nat) (u : ByteArray) (hb : 1 ≤ base) (j k : Nat) (h : j ≤ k) : valN base u j ≤ valN base u k := by
  induction k with
  | zero => have : j = 0 := by omega
            subst this; exact Nat.le_refl _
  | succ k ih =>
    rcases Nat.lt_or_ge j (k + 1) with h1 | h1
    · have := ih (by omega)
      show valN base u j ≤ valN base u k * base + _
      have h2 : valN base u k ≤ valN base u k * base := Nat.le_mul_of_pos_right _ (by omega)
      omega
    · have : j = k + 1 := by omega
      subst this; exact Nat.le_refl _

theorem valN_succ (base : Nat) (u : ByteArray) (k : Nat) (h : k < u.size) : valN base u (k + 1) = valN base u k * base + digN u[k].toNat := by
  show valN base u k * base + (if h : k < u.size then digN u[k].toNat else 0) = _
  rw [dif_pos h]
end Go.Proofs.YtpcmiaablanmeaaGreatDoor
