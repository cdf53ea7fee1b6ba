/- Words for memory and for the flags' data: no program is looked at. -/
import Derived.Test.YtpcmiaablanmeaaGreatDoorRows
import Derived.WalkKit
import Derived.WalkSpells
import Derived.WalkLawsBesides
import Derived.Laws.OwnMore
import Derived.Deep.AppendLies
import Derived.Deep.Draws
import Derived.Laws.Rows
import Derived.Lib.Hide
namespace Go.Proofs.YtpcmiaablanmeaaGreatDoor
open Go.RowKit

/-- A flag as data: impl.Flag. -/
structure FD where
  name : ByteArray
  kind : Int
  on : Bool
  num : Int
  text : ByteArray

def FD.val (f : FD) : Array Value := #[.string f.name, .int .i64 f.kind, .bool f.on, .int .i64 f.num, .string f.text]

/-- The five cells of a flag lie at an address. -/
def FlagAt (w : World) (b off : Nat) (f : FD) : Prop :=
  w.cell? ⟨b, off, none⟩ = some (.string f.name) ∧ w.cell? ⟨b, off + 1, none⟩ = some (.int .i64 f.kind) ∧ w.cell? ⟨b, off + 2, none⟩ = some (.bool f.on) ∧ w.cell? ⟨b, off + 3, none⟩ = some (.int .i64 f.num) ∧ w.cell? ⟨b, off + 4, none⟩ = some (.string f.text)

/-- What is known of one flag that came in. -/
structure FD.Ok (f : FD) : Prop where
  name : f.name.size ≤ 9223372036854775807
  text : f.text.size ≤ 9223372036854775807
  kind0 : -9223372036854775808 ≤ f.kind
  kind1 : f.kind ≤ 9223372036854775807
  num0 : -9223372036854775808 ≤ f.num
  num1 : f.num ≤ 9223372036854775807

/-- A slice of flags whose elements read as fs; it lies below block B. -/
def FlagsIn (w : World) (B : Nat) (A : Option Addr) (fs : List FD) : Prop :=
  ∀ i, i < fs.length → ∃ b off, A = some ⟨b, off, none⟩ ∧ b < B ∧ ∀ i f, fs[i]? = some f → FlagAt w b (off + i * 5) f

theorem FlagAt.below {w w' : World} {B b off : Nat} {f : FD} (h : FlagAt w b off f) (hb : Below B w w') (hlt : b < B) : FlagAt w' b off f := by
  obtain ⟨h0, h1, h2, h3, h4⟩ := h
  exact ⟨(hb.cell hlt).trans h0, (hb.cell hlt).trans h1, (hb.cell hlt).trans h2, (hb.cell hlt).trans h3, (hb.cell hlt).trans h4⟩
theorem FlagsIn.below {w w' : World} {B : Nat} {A : Option Addr} {fs : List FD} (h : FlagsIn w B A fs) (hb : Below B w w') : FlagsIn w' B A fs := fun i hi => by
  obtain ⟨b, off, hA, hlt, hc⟩ := h i hi
  exact ⟨b, off, hA, hlt, fun i f hf => (hc i f hf).below hb hlt⟩
theorem FlagsIn.more {w : World} {B B' : Nat} {A : Option Addr} {fs : List FD} (h : FlagsIn w B A fs) (hB : B ≤ B') : FlagsIn w B' A fs := fun i hi => by
  obtain ⟨b, off, hA, hlt, hc⟩ := h i hi
  exact ⟨b, off, hA, Nat.lt_of_lt_of_le hlt hB, hc⟩

/-- What was below stays: for the walk behind a contract that makes memory. -/
theorem bcell {W w1 : World} (hb : Below W.heap.size W w1) : (∀ b o, b < W.heap.size → w1.cell? ⟨b, o, none⟩ = W.cell? ⟨b, o, none⟩) ∧ (∀ b o, b < W.heap.size → w1.frozen? ⟨b, o, none⟩ = W.frozen? ⟨b, o, none⟩) :=
  ⟨fun b o h => hb.cell (p := ⟨b, o, none⟩) h, fun b o h => hb.frozen (p := ⟨b, o, none⟩) h⟩

theorem below_box {B : Nat} {w wr w' : World} {o : Obj} (hb : Below B w wr) (hsz : B ≤ wr.heap.size) (h2 : Below (wr.alloc o).heap.size (wr.alloc o) w') : Below B w w' :=
  (hb.alloc hsz _).trans (h2.mono (by simp; omega))
theorem below_call {B : Nat} {w wr w' : World} (hb : Below B w wr) (hsz : B ≤ wr.heap.size) (h2 : Below wr.heap.size wr w') : Below B w w' :=
  hb.trans (h2.mono hsz)

theorem str_inj {s t : ByteArray} (h : s.toList = t.toList) : s = t := by
  rw [ByteArray.toList_eq, ByteArray.toList_eq] at h
  cases s; cases t; congr; exact Array.toList_inj.1 h
theorem str_yes {s t : ByteArray} (h : (s.toList == t.toList) = true) : s = t := str_inj (by simpa using h)
theorem str_no {s t : ByteArray} (h : (s.toList == t.toList) = false) : s ≠ t := fun e => by subst e; simp at h
theorem str_eqb {s t : ByteArray} (h : s = t) : (s.toList == t.toList) = true := by simp [h]
theorem str_neb {s t : ByteArray} (h : s ≠ t) : (s.toList == t.toList) = false := by
  rw [beq_eq_false_iff_ne]; exact fun e => h (str_inj e)

theorem toList_nil {s : ByteArray} (h : s.size = 0) : s.toList = [] := by
  have : s.data.size = 0 := h
  rw [ByteArray.toList_eq, Array.eq_empty_of_size_eq_zero this]
theorem toList_ne {s : ByteArray} (h : 0 < s.size) : s.toList.isEmpty = false := by
  have : 0 < s.data.toList.length := by rw [Array.length_toList]; exact h
  rw [ByteArray.toList_eq]
  cases hl : s.data.toList with
  | nil => rw [hl] at this; simp at this
  | cons => rfl

theorem hide {p : Prop} (h : p) : Hid p := h
theorem ret_bool {a b : Bool} (h : a = b) : Ending.returned (.bool a) = .returned (.bool b) := by rw [h]
theorem ret_int {k : IntKind} {a b : Int} (h : a = b) : Ending.returned (.int k a) = .returned (.int k b) := by rw [h]
end Go.Proofs.YtpcmiaablanmeaaGreatDoor
