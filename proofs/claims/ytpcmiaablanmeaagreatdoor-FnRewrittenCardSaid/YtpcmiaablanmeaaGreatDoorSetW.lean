/- A set of flags in memory: what its words say, and how they are kept. -/
import Derived.Test.YtpcmiaablanmeaaGreatDoorAdd
namespace Go.Proofs.YtpcmiaablanmeaaGreatDoor
open Go.RowKit Go.Maps

theorem Tryz.infoBool : (Tryz.prog.info? 83).map (fun i => (i.zero, i.size, i.bytes)) = some (some (.pointer none), 1, 8) := by kernel_rfl
theorem Tryz.infoInt : (Tryz.prog.info? 84).map (fun i => (i.zero, i.size, i.bytes)) = some (some (.pointer none), 1, 8) := by kernel_rfl
theorem Tryz.infoStr : (Tryz.prog.info? 85).map (fun i => (i.zero, i.size, i.bytes)) = some (some (.pointer none), 1, 8) := by kernel_rfl

/-- The value of a flag's kind; the type of its variable; the type under which the set holds it. -/
def FD.cur (f : FD) : Value := if f.kind = 0 then .bool f.on else if f.kind = 1 then .int .i64 f.num else .string f.text
def FD.varT (f : FD) : TypeId := if f.kind = 0 then 4 else if f.kind = 1 then 3 else 9
def FD.ifT (f : FD) : TypeId := if f.kind = 0 then 139 else if f.kind = 1 then 141 else 143

theorem FD.varT_ne (f : FD) (t : TypeId) (h0 : 4 ≠ t) (h1 : 3 ≠ t) (h2 : 9 ≠ t) : f.varT ≠ t := by
  unfold FD.varT
  split
  · exact h0
  · split
    · exact h1
    · exact h2

/-- A flag of a set: its data now, the blocks of the flag and of its variable, its default's text. -/
structure Ent where
  f : FD
  p : Nat
  v : Nat
  d : ByteArray

def Ent.cells (e : Ent) : Array Value := #[.string e.f.name, .string ⟨#[]⟩, .iface e.f.ifT (.pointer (some ⟨e.v, 0, none⟩)), .string e.d]
def Ent.pa (e : Ent) (k : Int) : Option Addr := if e.f.kind = k then some ⟨e.v, 0, none⟩ else none
theorem Ent.ptr_same {e : Ent} {k : Int} (h : e.f.kind = k) : Value.pointer (e.pa k) = .pointer (some ⟨e.v, 0, none⟩) := congrArg Value.pointer (if_pos h)
theorem Ent.ptr_other {e : Ent} {k : Int} (h : e.f.kind ≠ k) : Value.pointer (e.pa k) = .pointer none := congrArg Value.pointer (if_neg h)
def kpsOf (es : List Ent) : List (ByteArray × Nat) := es.reverse.map fun e => (e.f.name, e.p)

/-- A set of flags in memory: blocks from B on. -/
structure SetW (w : World) (B sb fb : Nat) (es nb nn nt : List Ent) (u : Value) (parsed : Bool) (act mv args sl vb vn vt : Value) : Prop where
  set : Blk w sb 66 #[.pointer (some ⟨fb, 0, none⟩), sl, vb, vn, vt]
  fset : Blk w fb 82 (fsCells u parsed act mv args)
  map : MapIs w mv (kpsOf es)
  flags : ∀ e ∈ es, Blk w e.p 94 e.cells
  vars : ∀ e ∈ es, Blk w e.v e.f.varT #[e.f.cur]
  rowB : w.ownsRow B 83 1 vb nb.length (nb.map fun e => Value.pointer (e.pa 0))
  rowN : w.ownsRow B 84 1 vn nn.length (nn.map fun e => Value.pointer (e.pa 1))
  rowT : w.ownsRow B 85 1 vt nt.length (nt.map fun e => Value.pointer (e.pa 2))
  setB : B ≤ sb
  fsetB : B ≤ fb
  mapB : ∀ i, mapBlock mv i → B ≤ i
  flagsB : ∀ e ∈ es, B ≤ e.p ∧ B ≤ e.v
  apart : es.Pairwise fun a b => a.p ≠ b.p ∧ a.v ≠ b.v

theorem grown_of_off {w w' : World} (h : Off (fun _ => False) w w') : w.grownBy w' none := ⟨h.os, h.tape, h.output, h.size, fun i hi _ => h.block i hi (fun h => h)⟩

theorem SetW.keep {w w' : World} {B sb fb : Nat} {es nb nn nt : List Ent} {u : Value} {parsed : Bool} {act mv args sl vb vn vt : Value} (h : SetW w B sb fb es nb nn nt u parsed act mv args sl vb vn vt) (ho : Off (fun _ => False) w w') : SetW w' B sb fb es nb nn nt u parsed act mv args sl vb vn vt where
  set := h.set.off ho (fun h => h)
  fset := h.fset.off ho (fun h => h)
  map := h.map.off ho (fun _ _ h => h)
  flags e he := (h.flags e he).off ho (fun h => h)
  vars e he := (h.vars e he).off ho (fun h => h)
  rowB := h.rowB.kept (grown_of_off ho) (Classical.em _)
  rowN := h.rowN.kept (grown_of_off ho) (Classical.em _)
  rowT := h.rowT.kept (grown_of_off ho) (Classical.em _)
  setB := h.setB
  fsetB := h.fsetB
  mapB := h.mapB
  flagsB := h.flagsB
  apart := h.apart

theorem kpsOf_snoc (es : List Ent) (e : Ent) : kpsOf (es ++ [e]) = (e.f.name, e.p) :: kpsOf es := by simp [kpsOf]

theorem SetW.enter {w w' : World} {B sb fb : Nat} {es nb nn nt : List Ent} {u : Value} {parsed : Bool} {act mv args sl vb vn vt : Value} (h : SetW w B sb fb es nb nn nt u parsed act mv args sl vb vn vt) (hB : B ≤ w.heap.size) {name : ByteArray} {T Tp : TypeId} {val : Value} {r : Value}
    (hp : AddPost w fb u parsed act mv args (kpsOf es) name T Tp val (.returned r) w') (f : FD) (hname : f.name = name) (hT : f.varT = T) (hTp : f.ifT = Tp) (hval : f.cur = val) :
    ∃ e : Ent, e.f = f ∧ r = .pointer (some ⟨e.v, 0, none⟩) ∧ ∃ mv', SetW w' B sb fb (es ++ [e]) nb nn nt u parsed act mv' args sl vb vn vt := by
  obtain ⟨v, p, mv', d, hr, hv, hpp, bv, bp, hm, hmb, hf, ho⟩ := hp
  have hn : ∀ g t cs, Blk w g t cs → g ≠ fb → ¬ (g = fb ∨ mapBlock mv g) := fun g t cs hg hne => by
    rintro (e | e)
    · exact hne e
    · exact h.map.noBlk hg e
  have hrow : ∀ e n v xs, w.ownsRow B e 1 v n xs → e ≠ 82 → w'.ownsRow B e 1 v n xs := fun e n v xs hr hne => by
    rcases hr with ⟨hl, ⟨rfl, rfl⟩ | ⟨g, cap, cur, rfl, hb, hg, rest⟩⟩
    · exact ⟨hl, .inl ⟨rfl, rfl⟩⟩
    · exact ⟨hl, .inr ⟨g, cap, cur, rfl, hb, Blk.off (w := w) (show Blk w g e cur from hg) ho (hn g e cur hg (Blk.ne_ (show Blk w g e cur from hg) h.fset hne)), rest⟩⟩
  refine ⟨⟨f, p, v, d⟩, rfl, by cases hr; rfl, mv', ?_⟩
  exact {
    set := h.set.off ho (hn sb _ _ h.set (h.set.ne_ h.fset (by decide)))
    fset := hf
    map := by rw [kpsOf_snoc]; rw [← hname] at hm; exact hm
    flags := fun e he => by
      rcases List.mem_append.1 he with he | he
      · exact (h.flags e he).off ho (hn _ _ _ (h.flags e he) ((h.flags e he).ne_ h.fset (by decide)))
      · simp at he; subst he
        unfold Ent.cells
        simp only [hname, hTp]
        exact bp
    vars := fun e he => by
      rcases List.mem_append.1 he with he | he
      · exact (h.vars e he).off ho (hn _ _ _ (h.vars e he) ((h.vars e he).ne_ h.fset (FD.varT_ne _ _ (by decide) (by decide) (by decide))))
      · simp at he; subst he
        simp only [hT, hval]
        exact bv
    rowB := hrow _ _ _ _ h.rowB (by decide)
    rowN := hrow _ _ _ _ h.rowN (by decide)
    rowT := hrow _ _ _ _ h.rowT (by decide)
    setB := h.setB
    fsetB := h.fsetB
    mapB := fun i hi => by
      rcases hmb i hi with h1 | h1
      · exact h.mapB i h1
      · omega
    flagsB := fun e he => by
      rcases List.mem_append.1 he with he | he
      · exact h.flagsB e he
      · simp at he; subst he; exact ⟨Nat.le_trans hB hpp, Nat.le_trans hB hv⟩
    apart := by
      rw [List.pairwise_append]
      refine ⟨h.apart, by simp, fun a ha b hb => ?_⟩
      simp at hb; subst hb
      have h1 := (h.flags a ha).lt
      have h2 := (h.vars a ha).lt
      exact ⟨by simp; omega, by simp; omega⟩ }

theorem kpsOf_none (es : List Ent) (fs : List FD) (k : Nat) (f : FD) (hes : es.map (·.f) = fs.take k) (hf : fs[k]? = some f) (hD : DefinedP fs) : (kpsOf es).any (fun p => decide (p.1 = f.name)) = false := by
  rw [List.any_eq_false]
  intro p hp
  simp only [kpsOf, List.mem_map, List.mem_reverse] at hp
  obtain ⟨e, he, rfl⟩ := hp
  have hm : e.f ∈ fs.take k := by rw [← hes]; exact List.mem_map_of_mem he
  obtain ⟨j, hj, hje⟩ := List.mem_iff_getElem.1 hm
  have hjk : j < k := by simp at hj; omega
  have hfj : fs[j]? = some e.f := by
    rw [← hje, List.getElem_take]; exact List.getElem?_eq_getElem _
  simpa using hD.apart k j f e.f hjk hf hfj

theorem addBelow {w w2 w3 : World} {B sb fb : Nat} {es nb nn nt : List Ent} {u : Value} {parsed : Bool} {act mv args sl vb vn vt : Value} (h : SetW w2 B sb fb es nb nn nt u parsed act mv args sl vb vn vt) (hb : Below B w w2) (hB : B ≤ w2.heap.size)
    (ho : Off (fun i => i = fb ∨ mapBlock mv i) w2 w3) : Below B w w3 :=
  hb.trans (ho.below (fun i _ hi => by
    rcases hi with rfl | hi
    · exact h.fsetB
    · exact h.mapB i hi) hB)

/-- A row that the set owns has its own block: of which type. -/
theorem own_blk {w : World} {B : Nat} {e : TypeId} {v : Value} {n : Nat} {xs : List Value} (h : w.ownsRow B e 1 v n xs) {i : Nat} (hi : v.ownBlock = some i) : B ≤ i ∧ ∃ cs, Blk w i e cs := by
  rcases h.2 with ⟨rfl, _⟩ | ⟨g, cap, cur, rfl, hb, hg, _⟩
  · simp [Value.ownBlock] at hi
  · have : g = i := by simpa [Value.ownBlock] using hi
    subst this
    exact ⟨hb, cur, hg⟩
theorem own_ne {w : World} {B : Nat} {e : TypeId} {v : Value} {n : Nat} {xs : List Value} (h : w.ownsRow B e 1 v n xs) {g : Nat} {t : TypeId} {cs : Array Value} (hg : Blk w g t cs) (hne : t ≠ e) : v.ownBlock ≠ some g := fun hi => by
  obtain ⟨_, cs', hb⟩ := own_blk h hi
  exact hg.ne_ hb hne rfl
theorem own_shape {w : World} {B : Nat} {e : TypeId} {v : Value} {n : Nat} {xs : List Value} (h : w.ownsRow B e 1 v n xs) (hn : 0 < n) : ∃ g cap, v = .slice (some ⟨g, 0, none⟩) n cap := by
  rcases h.2 with ⟨_, rfl⟩ | ⟨g, cap, cur, rfl, _⟩
  · omega
  · exact ⟨g, cap, rfl⟩
theorem own_two {w w' : World} {B : Nat} {e e' : TypeId} {v v' : Value} {n n' : Nat} {xs xs' : List Value} (h : w.ownsRow B e 1 v n xs) (h' : w.ownsRow B e' 1 v' n' xs') (hne : e ≠ e') {o : Obj} (hg : (w.alloc o).grownBy w' v'.ownBlock) : w'.ownsRow B e 1 v n xs := by
  refine (h.alloc o).kept hg ?_
  cases hv : v.ownBlock with
  | none => exact .inl rfl
  | some i =>
    refine .inr fun e1 => ?_
    obtain ⟨_, cs, hb⟩ := own_blk h hv
    exact own_ne h' hb hne e1.symm

theorem SetW.app_bools {w w3 : World} {B sb fb : Nat} {es nb nn nt : List Ent} {u : Value} {parsed : Bool} {act mv args sl vb vn vt : Value} (h : SetW w B sb fb es nb nn nt u parsed act mv args sl vb vn vt) {o : Obj} {v' : Value} {e : Ent}
    (hown : w3.ownsRow B 83 1 v' (nb.length + 1) ((nb.map fun e => Value.pointer (e.pa 0)) ++ [.pointer (e.pa 0)])) (hg : (w.alloc o).grownBy w3 vb.ownBlock) :
    SetW (w3.setCell ⟨sb, 2, none⟩ v') B sb fb es (nb ++ [e]) nn nt u parsed act mv args sl v' vn vt ∧ w3.cell? ⟨sb, 2, none⟩ = some vb ∧ w3.frozen? ⟨sb, 2, none⟩ = false ∧ sb < w3.heap.size := by
  have hk : ∀ g t cs, Blk w g t cs → t ≠ 83 → Blk w3 g t cs := fun g t cs hb hne => (hb.alloc o).grown hg (fun e => own_ne h.rowB hb hne e.symm)
  have hs := hk _ _ _ h.set (by decide)
  have hsne : ∀ g t cs, Blk w3 g t cs → t ≠ 66 → g ≠ sb := fun g t cs hb hne => hb.ne_ hs hne
  have ho : Off (fun i => vb.ownBlock = some i) w w3 := ((Off.refl (fun i => vb.ownBlock = some i) w).alloc o).trans (off_of_grown (S := fun i => vb.ownBlock = some i) hg (fun i _ hi => hi)) (fun i _ hi => hi)
  have hown' : ∀ e' v n xs, w3.ownsRow B e' 1 v n xs → e' ≠ 66 → (w3.setCell ⟨sb, 2, none⟩ v').ownsRow B e' 1 v n xs := fun e' v n xs hr hne => ownsRow_setCell_other hr (fun hi => by
    obtain ⟨_, cs, hb⟩ := own_blk hr hi
    exact hb.ne_ hs hne rfl) v'
  refine ⟨{
    set := hs.set_ 2 v'
    fset := (hk _ _ _ h.fset (by decide)).far (p := ⟨sb, 2, none⟩) (hsne _ _ _ (hk _ _ _ h.fset (by decide)) (by decide)) v'
    map := (h.map.off ho (fun i hi hi' => by
      obtain ⟨_, cs, hb⟩ := own_blk h.rowB hi'
      exact h.map.noBlk hb hi)).off ((Off.refl (fun i => i = sb) w3).setCell (fun _ => rfl) v') (fun i hi hi' => by
        subst hi'
        exact h.map.noBlk h.set hi)
    flags := fun e he => by
      have hb := hk _ _ _ (h.flags e he) (by decide)
      exact hb.far (p := ⟨sb, 2, none⟩) (hsne _ _ _ hb (by decide)) v'
    vars := fun e he => by
      have hb := hk _ _ _ (h.vars e he) (FD.varT_ne _ _ (by decide) (by decide) (by decide))
      exact hb.far (p := ⟨sb, 2, none⟩) (hsne _ _ _ hb (FD.varT_ne _ _ (by decide) (by decide) (by decide))) v'
    rowB := hown' _ _ _ _ (by rw [List.map_append, List.length_append]; exact hown) (by decide)
    rowN := hown' _ _ _ _ (own_two h.rowN h.rowB (by decide) hg) (by decide)
    rowT := hown' _ _ _ _ (own_two h.rowT h.rowB (by decide) hg) (by decide)
    setB := h.setB
    fsetB := h.fsetB
    mapB := h.mapB
    flagsB := h.flagsB
    apart := h.apart }, hs.cell 2, hs.frozen 2, hs.lt⟩
theorem SetW.app_numbers {w w3 : World} {B sb fb : Nat} {es nb nn nt : List Ent} {u : Value} {parsed : Bool} {act mv args sl vb vn vt : Value} (h : SetW w B sb fb es nb nn nt u parsed act mv args sl vb vn vt) {o : Obj} {v' : Value} {e : Ent}
    (hown : w3.ownsRow B 84 1 v' (nn.length + 1) ((nn.map fun e => Value.pointer (e.pa 1)) ++ [.pointer (e.pa 1)])) (hg : (w.alloc o).grownBy w3 vn.ownBlock) :
    SetW (w3.setCell ⟨sb, 3, none⟩ v') B sb fb es nb (nn ++ [e]) nt u parsed act mv args sl vb v' vt ∧ w3.cell? ⟨sb, 3, none⟩ = some vn ∧ w3.frozen? ⟨sb, 3, none⟩ = false ∧ sb < w3.heap.size := by
  have hk : ∀ g t cs, Blk w g t cs → t ≠ 84 → Blk w3 g t cs := fun g t cs hb hne => (hb.alloc o).grown hg (fun e => own_ne h.rowN hb hne e.symm)
  have hs := hk _ _ _ h.set (by decide)
  have hsne : ∀ g t cs, Blk w3 g t cs → t ≠ 66 → g ≠ sb := fun g t cs hb hne => hb.ne_ hs hne
  have ho : Off (fun i => vn.ownBlock = some i) w w3 := ((Off.refl (fun i => vn.ownBlock = some i) w).alloc o).trans (off_of_grown (S := fun i => vn.ownBlock = some i) hg (fun i _ hi => hi)) (fun i _ hi => hi)
  have hown' : ∀ e' v n xs, w3.ownsRow B e' 1 v n xs → e' ≠ 66 → (w3.setCell ⟨sb, 3, none⟩ v').ownsRow B e' 1 v n xs := fun e' v n xs hr hne => ownsRow_setCell_other hr (fun hi => by
    obtain ⟨_, cs, hb⟩ := own_blk hr hi
    exact hb.ne_ hs hne rfl) v'
  refine ⟨{
    set := hs.set_ 3 v'
    fset := (hk _ _ _ h.fset (by decide)).far (p := ⟨sb, 3, none⟩) (hsne _ _ _ (hk _ _ _ h.fset (by decide)) (by decide)) v'
    map := (h.map.off ho (fun i hi hi' => by
      obtain ⟨_, cs, hb⟩ := own_blk h.rowN hi'
      exact h.map.noBlk hb hi)).off ((Off.refl (fun i => i = sb) w3).setCell (fun _ => rfl) v') (fun i hi hi' => by
        subst hi'
        exact h.map.noBlk h.set hi)
    flags := fun e he => by
      have hb := hk _ _ _ (h.flags e he) (by decide)
      exact hb.far (p := ⟨sb, 3, none⟩) (hsne _ _ _ hb (by decide)) v'
    vars := fun e he => by
      have hb := hk _ _ _ (h.vars e he) (FD.varT_ne _ _ (by decide) (by decide) (by decide))
      exact hb.far (p := ⟨sb, 3, none⟩) (hsne _ _ _ hb (FD.varT_ne _ _ (by decide) (by decide) (by decide))) v'
    rowB := hown' _ _ _ _ (own_two h.rowB h.rowN (by decide) hg) (by decide)
    rowN := hown' _ _ _ _ (by rw [List.map_append, List.length_append]; exact hown) (by decide)
    rowT := hown' _ _ _ _ (own_two h.rowT h.rowN (by decide) hg) (by decide)
    setB := h.setB
    fsetB := h.fsetB
    mapB := h.mapB
    flagsB := h.flagsB
    apart := h.apart }, hs.cell 3, hs.frozen 3, hs.lt⟩
theorem SetW.app_texts {w w3 : World} {B sb fb : Nat} {es nb nn nt : List Ent} {u : Value} {parsed : Bool} {act mv args sl vb vn vt : Value} (h : SetW w B sb fb es nb nn nt u parsed act mv args sl vb vn vt) {o : Obj} {v' : Value} {e : Ent}
    (hown : w3.ownsRow B 85 1 v' (nt.length + 1) ((nt.map fun e => Value.pointer (e.pa 2)) ++ [.pointer (e.pa 2)])) (hg : (w.alloc o).grownBy w3 vt.ownBlock) :
    SetW (w3.setCell ⟨sb, 4, none⟩ v') B sb fb es nb nn (nt ++ [e]) u parsed act mv args sl vb vn v' ∧ w3.cell? ⟨sb, 4, none⟩ = some vt ∧ w3.frozen? ⟨sb, 4, none⟩ = false ∧ sb < w3.heap.size := by
  have hk : ∀ g t cs, Blk w g t cs → t ≠ 85 → Blk w3 g t cs := fun g t cs hb hne => (hb.alloc o).grown hg (fun e => own_ne h.rowT hb hne e.symm)
  have hs := hk _ _ _ h.set (by decide)
  have hsne : ∀ g t cs, Blk w3 g t cs → t ≠ 66 → g ≠ sb := fun g t cs hb hne => hb.ne_ hs hne
  have ho : Off (fun i => vt.ownBlock = some i) w w3 := ((Off.refl (fun i => vt.ownBlock = some i) w).alloc o).trans (off_of_grown (S := fun i => vt.ownBlock = some i) hg (fun i _ hi => hi)) (fun i _ hi => hi)
  have hown' : ∀ e' v n xs, w3.ownsRow B e' 1 v n xs → e' ≠ 66 → (w3.setCell ⟨sb, 4, none⟩ v').ownsRow B e' 1 v n xs := fun e' v n xs hr hne => ownsRow_setCell_other hr (fun hi => by
    obtain ⟨_, cs, hb⟩ := own_blk hr hi
    exact hb.ne_ hs hne rfl) v'
  refine ⟨{
    set := hs.set_ 4 v'
    fset := (hk _ _ _ h.fset (by decide)).far (p := ⟨sb, 4, none⟩) (hsne _ _ _ (hk _ _ _ h.fset (by decide)) (by decide)) v'
    map := (h.map.off ho (fun i hi hi' => by
      obtain ⟨_, cs, hb⟩ := own_blk h.rowT hi'
      exact h.map.noBlk hb hi)).off ((Off.refl (fun i => i = sb) w3).setCell (fun _ => rfl) v') (fun i hi hi' => by
        subst hi'
        exact h.map.noBlk h.set hi)
    flags := fun e he => by
      have hb := hk _ _ _ (h.flags e he) (by decide)
      exact hb.far (p := ⟨sb, 4, none⟩) (hsne _ _ _ hb (by decide)) v'
    vars := fun e he => by
      have hb := hk _ _ _ (h.vars e he) (FD.varT_ne _ _ (by decide) (by decide) (by decide))
      exact hb.far (p := ⟨sb, 4, none⟩) (hsne _ _ _ hb (FD.varT_ne _ _ (by decide) (by decide) (by decide))) v'
    rowB := hown' _ _ _ _ (own_two h.rowB h.rowT (by decide) hg) (by decide)
    rowN := hown' _ _ _ _ (own_two h.rowN h.rowT (by decide) hg) (by decide)
    rowT := hown' _ _ _ _ (by rw [List.map_append, List.length_append]; exact hown) (by decide)
    setB := h.setB
    fsetB := h.fsetB
    mapB := h.mapB
    flagsB := h.flagsB
    apart := h.apart }, hs.cell 4, hs.frozen 4, hs.lt⟩

end Go.Proofs.YtpcmiaablanmeaaGreatDoor
