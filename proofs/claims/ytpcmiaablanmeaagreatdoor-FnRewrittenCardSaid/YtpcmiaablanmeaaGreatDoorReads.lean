/- What is read out of arguments, as a relation; the memory of spec.Read. -/
import Derived.Test.YtpcmiaablanmeaaGreatDoorSeek
import Derived.Test.YtpcmiaablanmeaaGreatDoorNum
import Derived.Test.YtpcmiaablanmeaaGreatDoorSign
import Derived.Lib.ParseBool
namespace Go.Proofs.YtpcmiaablanmeaaGreatDoor
open Go.RowKit Go.Lib

/-- f with the value of the text v is f'. -/
def Takes (f : FD) (v : ByteArray) (f' : FD) : Prop :=
  (f.kind = 0 ∧ ∃ b, Lib.parseBool v.data.toList = some b ∧ f' = { f with on := b }) ∨
  (f.kind = 1 ∧ ∃ n, NumOk v n ∧ -9223372036854775808 ≤ n ∧ n ≤ 9223372036854775807 ∧ f' = { f with num := n }) ∨
  (f.kind ≠ 0 ∧ f.kind ≠ 1 ∧ f' = { f with text := v })

theorem Takes.name {f f' : FD} {v : ByteArray} (h : Takes f v f') : f'.name = f.name ∧ f'.kind = f.kind := by
  rcases h with ⟨_, b, _, rfl⟩ | ⟨_, n, _, _, _, rfl⟩ | ⟨_, _, rfl⟩ <;> exact ⟨rfl, rfl⟩

/-- The names that were set, with one more. -/
def SeenStep (ss : List ByteArray) (x : ByteArray) (ss' : List ByteArray) : Prop := (x ∈ ss ∧ ss' = ss) ∨ (x ∉ ss ∧ ss'.Perm (x :: ss))

/-- The cells of a row of flags. -/
def RowOf (cs : Array Value) (fs : List FD) : Prop := ∀ i f, fs[i]? = some f → ∀ j v, f.val[j]? = some v → cs[i * 5 + j]? = some v

theorem RowOf.set {cs : Array Value} {fs : List FD} (h : RowOf cs fs) {i j0 : Nat} {f f' : FD} {v0 : Value} (hf : fs[i]? = some f) (hj : j0 < 5) (hv : f'.val = f.val.setIfInBounds j0 v0) : RowOf (cs.setIfInBounds (i * 5 + j0) v0) (fs.set i f') := by
  intro i' g hg j v hjv
  have hsz : ∀ (g : FD), g.val.size = 5 := fun _ => rfl
  have hj5 : j < 5 := by
    have := (Array.getElem?_eq_some_iff.1 hjv).1
    rwa [hsz] at this
  rw [Array.getElem?_setIfInBounds]
  by_cases hi : i = i'
  · subst hi
    have hil := (List.getElem?_eq_some_iff.1 hf).1
    rw [List.getElem?_set_self hil] at hg
    cases hg
    rw [hv, Array.getElem?_setIfInBounds] at hjv
    by_cases hjj : j0 = j
    · subst hjj
      rw [if_pos rfl]
      have h1 : f.val[j0]? = some (f.val[j0]'(by rw [hsz]; exact hj)) := Array.getElem?_eq_getElem _
      have h2 := (Array.getElem?_eq_some_iff.1 (h i f hf j0 _ h1)).1
      rw [if_pos h2]
      rw [if_pos rfl, if_pos (by rw [hsz]; exact hj)] at hjv
      exact hjv
    · rw [if_neg (by omega)]
      rw [if_neg hjj] at hjv
      exact h i f hf j v hjv
  · rw [if_neg (by omega)]
    rw [List.getElem?_set_ne hi] at hg
    exact h i' g hg j v hjv

def readCells (fl sn rs : Value) (st bad : Int) (said ended : Bool) : Array Value := #[fl, sn, rs, .int .i64 st, .int .i64 bad, .bool said, .bool ended]

/-- A row of flags that a call has made. -/
def FlagsSt (w : World) (B : Nat) (fl : Value) (fs : List FD) : Prop := (fl = .slice none 0 0 ∧ fs = []) ∨ ∃ g cap cs, fl = .slice (some ⟨g, 0, none⟩) fs.length cap ∧ B ≤ g ∧ Blk w g 36 cs ∧ RowOf cs fs ∧ fs.length ≤ cap

/-- A spec.Read in memory. -/
structure RS (w : World) (B rb : Nat) (fl sn rs : Value) (st bad : Int) (said ended : Bool) (cur : List FD) (ss : List ByteArray) : Prop where
  blk : Blk w rb 40 (readCells fl sn rs st bad said ended)
  fls : FlagsSt w B fl cur
  seen : w.ownsRow B 9 1 sn ss.length (ss.map Value.string)
  sorted : Sorted ss
  rbB : B ≤ rb

/-- The text s is a flag's; b is what stands behind its hyphens. -/
def Body (s b : ByteArray) : Prop := ∃ h1 : 1 < s.size, s[0] = 45 ∧ ((s[1] ≠ 45 ∧ b = s.extract 1 s.size) ∨ (s[1] = 45 ∧ 2 < s.size ∧ b = s.extract 2 s.size)) ∧ ∃ hb : 0 < b.size, b[0] ≠ 45 ∧ b[0] ≠ 61

def trueText : ByteArray := ⟨#[116, 114, 117, 101]⟩

/-- The flag and the value that b means, and the arguments that are left. -/
def Means (fs : List FD) (b : ByteArray) (rest : List ByteArray) (i : Nat) (v : ByteArray) (rest' : List ByteArray) : Prop :=
  (∃ k : Nat, signOf b = k ∧ findOf fs (b.extract 0 k) = i ∧ v = b.extract (k + 1) b.size ∧ rest' = rest) ∨
  (signOf b < 0 ∧ findOf fs b = i ∧ (∀ f, fs[i]? = some f → f.kind = 0) ∧ v = trueText ∧ rest' = rest) ∨
  (signOf b < 0 ∧ findOf fs b = i ∧ (∀ f, fs[i]? = some f → f.kind ≠ 0) ∧ rest = v :: rest')

/-- No flag comes. -/
def StopAt (args : List ByteArray) : Prop := ∀ s r, args = s :: r → s.size < 2 ∨ hasB s 0 45 = false

/-- What is read: the flags, the names, the arguments behind, and whether -- ended it. -/
inductive Reads (fs : List FD) : List FD → List ByteArray → List ByteArray → List FD → List ByteArray → List ByteArray → Bool → Prop
  | stop (cur : List FD) (args seen : List ByteArray) (h : StopAt args) : Reads fs cur args seen cur seen args false
  | term (cur : List FD) (s : ByteArray) (rest seen : List ByteArray) (h : s = ⟨#[45, 45]⟩) : Reads fs cur (s :: rest) seen cur seen rest true
  | step (cur : List FD) (s b : ByteArray) (rest seen : List ByteArray) (i : Nat) (v : ByteArray) (rest' : List ByteArray) (f f' : FD) (seen1 : List ByteArray) (cur' : List FD) (seen' rest'' : List ByteArray) (ended : Bool)
    (hb : Body s b) (hm : Means fs b rest i v rest') (hf : cur[i]? = some f) (ht : Takes f v f') (hs : SeenStep seen f.name seen1) (next : Reads fs (cur.set i f') rest' seen1 cur' seen' rest'' ended) :
    Reads fs cur (s :: rest) seen cur' seen' rest'' ended
end Go.Proofs.YtpcmiaablanmeaaGreatDoor
