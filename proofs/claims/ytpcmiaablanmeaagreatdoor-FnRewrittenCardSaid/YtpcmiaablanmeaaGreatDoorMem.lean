/- Words for memory: what stays, blocks that are known whole, maps whose elements are pointers. No function is looked at. -/
import Derived.Test.YtpcmiaablanmeaaGreatDoorWords
import Derived.Maps.OwnSet
import Derived.Maps.Views
namespace Go.Proofs.YtpcmiaablanmeaaGreatDoor
open Go.RowKit

/-- But for the blocks of S (and new ones) w' is as w was. -/
structure Off (S : Nat → Prop) (w w' : World) : Prop where
  os : w'.os = w.os
  tape : w'.tape = w.tape
  output : w'.output = w.output
  size : w.heap.size ≤ w'.heap.size
  block : ∀ i, i < w.heap.size → ¬ S i → w'.heap[i]? = w.heap[i]?

section
variable {S S' : Nat → Prop} {w w' w1 : World}
theorem Off.refl (S : Nat → Prop) (w : World) : Off S w w := ⟨rfl, rfl, rfl, Nat.le_refl _, fun _ _ _ => rfl⟩
theorem Off.trans (h : Off S w w1) (k : Off S' w1 w') (hs : ∀ i, i < w.heap.size → S' i → S i) : Off S w w' :=
  ⟨k.os.trans h.os, k.tape.trans h.tape, k.output.trans h.output, Nat.le_trans h.size k.size, fun i hi hn => (k.block i (Nat.lt_of_lt_of_le hi h.size) (fun hs' => hn (hs i hi hs'))).trans (h.block i hi hn)⟩
theorem Off.weaken (h : Off S w w') (hs : ∀ i, i < w.heap.size → S i → S' i) : Off S' w w' := ⟨h.os, h.tape, h.output, h.size, fun i hi hn => h.block i hi (fun hi' => hn (hs i hi hi'))⟩
theorem Off.alloc (h : Off S w w') (o : Obj) : Off S w (w'.alloc o) :=
  ⟨h.os, h.tape, h.output, Nat.le_trans h.size (by simp), fun i hi hn => (Below.heap_alloc w' o i (Nat.lt_of_lt_of_le hi h.size)).trans (h.block i hi hn)⟩
theorem Off.drew (h : Off S w w') : Off S w w'.drew := ⟨h.os, h.tape, h.output, h.size, h.block⟩
theorem Off.drewN (h : Off S w w') (n : Nat) : Off S w (w'.drewN n) := ⟨h.os, h.tape, h.output, h.size, h.block⟩
theorem Off.setCell (h : Off S w w') {p : Addr} (hp : p.block < w.heap.size → S p.block) (u : Value) : Off S w (w'.setCell p u) :=
  ⟨h.os, h.tape, h.output, by simpa [World.setCell] using h.size, fun i hi hn => (Below.heap_setCell w' p u i (by rintro rfl; exact hn (hp hi))).trans (h.block i hi hn)⟩
theorem Off.below {B : Nat} (h : Off S w w') (hs : ∀ i, i < w.heap.size → S i → B ≤ i) (hB : B ≤ w.heap.size) : Below B w w' :=
  ⟨h.os, h.tape, h.output, h.size, fun i hi => h.block i (by omega) (fun hi' => by have := hs i (by omega) hi'; omega)⟩
theorem Below.off' {B : Nat} (h : Below B w w') : Off (fun i => B ≤ i) w w' := ⟨h.os, h.tape, h.output, h.size, fun i _ hn => h.block i (by omega)⟩
theorem off_of_below (h : Below w.heap.size w w') : Off S w w' := ⟨h.os, h.tape, h.output, h.size, fun i hi _ => h.block i hi⟩
theorem off_of_grown {row : Option Nat} (h : w.grownBy w' row) (hs : ∀ i, i < w.heap.size → row = some i → S i) : Off S w w' :=
  ⟨h.os, h.tape, h.output, h.size, fun i hi hn => h.block i hi (fun e => hn (hs i hi e.symm))⟩
end

/-- Block g is just the cells cs, of element type t, none of them frozen. -/
def Blk (w : World) (g : Nat) (t : TypeId) (cs : Array Value) : Prop := w.heap[g]? = some (.cells cs t (0, 0))

section
variable {S : Nat → Prop} {w w' : World} {g : Nat} {t : TypeId} {cs : Array Value}
theorem Blk.lt (h : Blk w g t cs) : g < w.heap.size := by
  rcases Nat.lt_or_ge g w.heap.size with hlt | hge
  · exact hlt
  · unfold Blk at h; rw [Array.getElem?_eq_none hge] at h; cases h
theorem Blk.cell (h : Blk w g t cs) (i : Nat) : w.cell? ⟨g, i, none⟩ = cs[i]? := cell_of_row w g i cs t (0, 0) h
theorem Blk.frozen (h : Blk w g t cs) (i : Nat) : w.frozen? ⟨g, i, none⟩ = false := by
  unfold Blk at h
  simp [World.frozen?, h]
theorem Blk.new (w : World) (t : TypeId) (cs : Array Value) : Blk (w.alloc (.cells cs t)) w.heap.size t cs := heap_alloc_new w _
theorem Blk.drew (h : Blk w g t cs) : Blk w.drew g t cs := h
theorem Blk.drewN (h : Blk w g t cs) (n : Nat) : Blk (w.drewN n) g t cs := h
theorem Blk.alloc (h : Blk w g t cs) (o : Obj) : Blk (w.alloc o) g t cs := (Below.heap_alloc w o g h.lt).trans h
theorem Blk.set_ (h : Blk w g t cs) (i : Nat) (u : Value) : Blk (w.setCell ⟨g, i, none⟩ u) g t (cs.setIfInBounds i u) := by
  unfold Blk at h ⊢
  simp [World.setCell, Array.getElem?_modify, h]
theorem Blk.far (h : Blk w g t cs) {p : Addr} (hp : g ≠ p.block) (u : Value) : Blk (w.setCell p u) g t cs := (Below.heap_setCell w p u g hp).trans h
theorem Blk.off (h : Blk w g t cs) (hb : Off S w w') (hg : ¬ S g) : Blk w' g t cs := (hb.block g h.lt hg).trans h
theorem Blk.grown {row : Option Nat} (h : Blk w g t cs) (hb : w.grownBy w' row) (hg : some g ≠ row) : Blk w' g t cs := (hb.block g h.lt hg).trans h
theorem Blk.ne_ {g' : Nat} {t' : TypeId} {cs' : Array Value} (h : Blk w g t cs) (h' : Blk w g' t' cs') (hne : t ≠ t') : g ≠ g' := by
  rintro rfl
  unfold Blk at h h'
  rw [h] at h'
  injection h' with h'
  injection h' with _ ht
  exact hne ht
theorem Blk.same {t' : TypeId} {cs' : Array Value} (h : Blk w g t cs) (h' : Blk w g t' cs') : cs = cs' := by
  unfold Blk at h h'
  rw [h] at h'
  injection h' with h'
  injection h' with h1 _
end

/-! ### Maps from texts to pointers -/
/-- How a pointer reads: where it leads. -/
def ptrElem : Value → Option (DataW Unit × List MemPlace)
  | .pointer (some ⟨b, o, none⟩) => some (.agg [.lit (.int .i64 b), .lit (.int .i64 o)], [])
  | .pointer none => some (.nil, [])
  | _ => none

theorem ptrElem_mk (b : Nat) : ptrElem (.pointer (some ⟨b, 0, none⟩)) = some (.agg [.lit (.int .i64 b), .lit (.int .i64 0)], []) := rfl

theorem ptrElem_inv {v : Value} {b : Nat} {ps : List MemPlace} (h : ptrElem v = some (.agg [.lit (.int .i64 b), .lit (.int .i64 0)], ps)) : v = .pointer (some ⟨b, 0, none⟩) := by
  unfold ptrElem at h
  split at h
  · rename_i b' o'
    simp only [Option.some.injEq, Prod.mk.injEq, DataW.agg.injEq, List.cons.injEq, DataW.lit.injEq, Lit.int.injEq, true_and, and_true] at h
    obtain ⟨⟨hb, ho⟩, _⟩ := h
    have hb' : b' = b := by omega
    have ho' : o' = 0 := by omega
    subst hb' ho'
    rfl
  · simp at h
  · cases h
theorem ptrElem_nil {v : Value} {ps : List MemPlace} (h : ptrElem v = some (.nil, ps)) : v = .pointer none := by
  unfold ptrElem at h
  split at h
  · simp at h
  · rfl
  · cases h

/-- The key that a text is. -/
def keyLit (s : ByteArray) : Lit := .string s.data.toList
/-- The datum that a block's pointer is. -/
def ptrD (b : Nat) : DataW Unit := .agg [.lit (.int .i64 b), .lit (.int .i64 0)]

/-- A map as it is filled, the newest entry first. -/
def mapD : List (ByteArray × Nat) → DataW Unit
  | [] => .map []
  | (s, b) :: r => (mapD r).put (keyLit s) (ptrD b)

end Go.Proofs.YtpcmiaablanmeaaGreatDoor
