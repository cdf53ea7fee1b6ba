/- A set of flags while arguments are read: how it moves. No function is looked at. -/
import Derived.Test.YtpcmiaablanmeaaGreatDoorPSet
import Derived.Maps.Ext
namespace Go.Proofs.YtpcmiaablanmeaaGreatDoor
open Go.RowKit Go.Maps Go.Lib

section
variable {w w' : World} {B sb fb : Nat} {es0 es : List Ent} {u act mv sl vb vn vt : Value} {A : Option Addr} {L : List ByteArray} {c : Nat} {ak : List (ByteArray × Nat)} {ss : List ByteArray}

theorem fsCells_args (u : Value) (parsed : Bool) (act frm args args' : Value) : (fsCells u parsed act frm args).setIfInBounds 5 args' = fsCells u parsed act frm args' := rfl
theorem fsCells_act (u : Value) (parsed : Bool) (act frm args act' : Value) : (fsCells u parsed act frm args).setIfInBounds 3 act' = fsCells u parsed act' frm args := rfl

theorem PS.keep (h : PS w B sb fb es0 es u act mv sl vb vn vt A L c ak ss) (ho : Off (fun _ => False) w w') : PS w' B sb fb es0 es u act mv sl vb vn vt A L c ak ss :=
  { h with set := h.set.keep ho, actM := h.actM.off ho (fun _ _ h => h), args := h.args.off ho (fun _ _ _ _ h => h), base := Nat.le_trans h.base ho.size }

/-- The arguments move on. -/
theorem PS.advance {ab off : Nat} {s : ByteArray} {r : List ByteArray} (h : PS w B sb fb es0 es u act mv sl vb vn vt (some ⟨ab, off, none⟩) (s :: r) c ak ss) :
    PS (w.setCell ⟨fb, 5, none⟩ (.slice (if c = 1 then some ⟨ab, off, none⟩ else some ⟨ab, off + 1, none⟩) r.length (c - 1))) B sb fb es0 es u act mv sl vb vn vt (if c = 1 then some ⟨ab, off, none⟩ else some ⟨ab, off + 1, none⟩) r (c - 1) ak ss := by
  have hcap := h.cap
  have ho : ∀ x, Off (fun j => j = fb) w (w.setCell ⟨fb, 5, none⟩ x) := fun x => (Off.refl (fun j => j = fb) w).setCell (p := ⟨fb, 5, none⟩) (fun _ => rfl) x
  refine { h with set := ?_, actM := ?_, args := ?_, cap := ?_, base := ?_ }
  · refine h.set.move (ho _) (fun g t cs _ e => e) (fun i hi e => ?_) (h.set.fset.set_ 5 _)
    subst e
    exact h.set.map.noBlk h.set.fset hi
  · exact h.actM.off (ho _) (fun i hi e => by subst e; exact h.actM.noBlk h.set.fset hi)
  · exact (h.args.tail c hcap).off (ho _) (fun g cs _ hg e => by subst e; exact hg.ne_ h.set.fset (by decide) rfl)
  · simp only [List.length_cons] at hcap; omega
  · exact Nat.le_trans h.base (ho _).size

/-- A flag's variable has a new value. -/
theorem PS.put (h : PS w B sb fb es0 es u act mv sl vb vn vt A L c ak ss) {i : Nat} {e : Ent} (he : es[i]? = some e) {f' : FD} (hn : f'.name = e.f.name ∧ f'.kind = e.f.kind) (ho : Off (fun j => j = e.v) w w') (hv : Blk w' e.v e.f.varT #[f'.cur]) :
    PS w' B sb fb es0 (es.set i ⟨f', e.p, e.v, e.d⟩) u act mv sl vb vn vt A L c ak ss := by
  have hem : e ∈ es := List.mem_of_getElem? he
  have hvv := h.set.vars e hem
  refine { h with set := h.set.put he hn ho hv, actM := ?_, akP := ?_, args := ?_, few := ?_, names := ?_, base := ?_, old := ?_ }
  · exact h.actM.off ho (fun i hi e1 => by subst e1; exact h.actM.noBlk hvv hi)
  · rw [kpsOf_set he hn.1]; exact h.akP
  · obtain ⟨ab, off, acs, h1, h2, h3, h4⟩ := h.args
    exact ⟨ab, off, acs, h1, ⟨h2.1, fun a ha => by
      rcases mem_set_ he ha with rfl | ⟨j, _, hj⟩
      · exact h2.2 e hem
      · exact h2.2 a (List.mem_of_getElem? hj)⟩, h3.off ho (h2.2 e hem), h4⟩
  · rw [List.length_set]; exact h.few
  · have : (es.set i ⟨f', e.p, e.v, e.d⟩).map (fun e => e.f.name) = es.map (fun e => e.f.name) := by
      apply List.ext_getElem?
      intro j
      rw [List.getElem?_map, List.getElem?_map]
      by_cases hj : i = j
      · subst hj
        rw [List.getElem?_set_self (List.getElem?_eq_some_iff.1 he).1, he]
        simp [hn.1]
      · rw [List.getElem?_set_ne hj]
    rw [this]; exact h.names
  · exact Nat.le_trans h.base ho.size
  · have : (es.set i ⟨f', e.p, e.v, e.d⟩).map (fun e => (e.v, e.f.kind)) = es.map (fun e => (e.v, e.f.kind)) := by
      apply List.ext_getElem?
      intro j
      rw [List.getElem?_map, List.getElem?_map]
      by_cases hj : i = j
      · subst hj
        rw [List.getElem?_set_self (List.getElem?_eq_some_iff.1 he).1, he]
        simp [hn.2]
      · rw [List.getElem?_set_ne hj]
    rw [this]; exact h.old

theorem mapD_tidyP : ∀ ak : List (ByteArray × Nat), Tidy (mapD ak)
  | [] => tidy_empty
  | (s, b) :: r => (mapD_tidyP r).put (by unfold keyLit; trivial) _

theorem mapD_sizeP : ∀ {ak : List (ByteArray × Nat)}, (ak.map (·.1)).Nodup → Maps.size (mapD ak) = ak.length
  | [], _ => rfl
  | (s, b) :: r, h => by
    rw [List.map_cons, List.nodup_cons] at h
    unfold mapD
    rw [size_put (mapD_tidyP r), mapD_has, mapD_sizeP h.2]
    have : r.any (fun p => decide (p.1 = s)) = false := by
      rw [List.any_eq_false]
      intro p hp
      have : p.1 ≠ s := fun e => h.1 (List.mem_map.2 ⟨p, hp, e⟩)
      simpa using this
    rw [this]
    simp

/-- The entry is there already: nothing turns. -/
theorem own_again {mb n n' : Nat} (h0 : w.ownsMap Tryz.prog 9 ptrElem mb n (mapD ak)) (hn : (ak.map (·.1)).Nodup) {p : ByteArray × Nat} (hp : p ∈ ak) (h : w'.ownsMap Tryz.prog 9 ptrElem mb n' (mapD (p :: ak))) : w'.ownsMap Tryz.prog 9 ptrElem mb ak.length (mapD ak) := by
  obtain ⟨hf, ha⟩ := find_kps hn hp
  have hk : WideAt.IsKeyLit (keyLit p.1) := by unfold keyLit; trivial
  have e : mapD (p :: ak) = mapD ak := by
    refine Maps.ext (h.canon Tryz.keyed) (h0.canon Tryz.keyed) (fun k => ?_) (fun k z hh => ?_)
    · by_cases hk' : k = keyLit p.1
      · subst hk'
        rw [mapD_has, mapD_has, ha, List.any_cons]
        simp
      · exact has_put_other hk' _
    · by_cases hk' : k = keyLit p.1
      · subst hk'
        rw [mapD_at, mapD_at, hf]
        simp
      · exact atKey_put_other hk' _ _
  rw [e] at h
  obtain ⟨es, clock, h1, h2, _, h4⟩ := h
  refine ⟨es, clock, h1, h2, ?_, h4⟩
  have := mapD_sizeP hn
  rw [h4] at this
  simp [Maps.size, length_sorted] at this
  omega

theorem kps_one {es : List Ent} (hn : (es.map fun e => e.f.name).Nodup) {e : Ent} (he : e ∈ es) {p : ByteArray × Nat} (hp : p ∈ kpsOf es) (hpe : p.1 = e.f.name) : p = (e.f.name, e.p) := by
  unfold kpsOf at hp
  obtain ⟨a, ha, rfl⟩ := List.mem_map.1 hp
  obtain ⟨i, hi, rfl⟩ := List.mem_iff_getElem.1 (List.mem_reverse.1 ha)
  obtain ⟨j, hj, rfl⟩ := List.mem_iff_getElem.1 he
  have h1 := (List.getElem_inj (h₀ := by rw [List.length_map]; exact hi) (h₁ := by rw [List.length_map]; exact hj) hn).1 (by rw [List.getElem_map, List.getElem_map]; exact hpe)
  subst h1
  rfl

theorem MapIs.own {mb : Nat} (h : MapIs w (.map (some mb)) ak) : w.ownsMap Tryz.prog 9 ptrElem mb ak.length (mapD ak) := by
  rcases h with ⟨h, _⟩ | ⟨mb', h, h'⟩
  · cases h
  · cases h; exact h'

/-- The flag is marked as set. -/
theorem PS.mark {mb : Nat} (h : PS w B sb fb es0 es u (.map (some mb)) mv sl vb vn vt A L c ak ss) {i : Nat} {e : Ent} (he : es[i]? = some e) {ss1 : List ByteArray} (hs : SeenStep ss e.f.name ss1)
    (hown : w'.ownsMap Tryz.prog 9 ptrElem mb ((e.f.name, e.p) :: ak).length (mapD ((e.f.name, e.p) :: ak))) (hg : w.grownBy w' (some mb)) : ∃ ak', PS w' B sb fb es0 es u (.map (some mb)) mv sl vb vn vt A L c ak' ss1 := by
  have hem : e ∈ es := List.mem_of_getElem? he
  have hakn : (ak.map (·.1)).Nodup := h.seen.nodup_iff.2 h.nodup
  have ho : Off (fun j => j = mb) w w' := off_of_grown hg (fun i _ e => by cases e; rfl)
  have hno : ∀ g t cs, Blk w g t cs → g ≠ mb := fun g t cs hb e => by subst e; exact h.actM.noBlk hb rfl
  have hset := h.set.move (parsed' := true) (act' := .map (some mb)) (args' := .slice A L.length c) ho (fun g t cs hg e => absurd e (hno g t cs hg)) (fun i hi e => by subst e; exact (h.actB _ rfl).2 hi) (h.set.fset.off ho (hno _ _ _ h.set.fset))
  have hargs := h.args.off ho (fun g cs _ hg => hno _ _ _ hg)
  have hbase := Nat.le_trans h.base ho.size
  rcases hs with ⟨hin, rfl⟩ | ⟨hout, hp⟩
  · obtain ⟨q, hq, hqe⟩ := List.mem_map.1 (h.seen.mem_iff.2 hin)
    have hqq : q = (e.f.name, e.p) := kps_one h.names hem (h.akP q hq) hqe
    subst hqq
    exact ⟨ak, { h with set := hset, actM := .inr ⟨mb, rfl, own_again h.actM.own hakn hq hown⟩, args := hargs, base := hbase }⟩
  · refine ⟨(e.f.name, e.p) :: ak, { h with set := hset, actM := .inr ⟨mb, rfl, hown⟩, args := hargs, base := hbase, akP := ?_, seen := ?_, nodup := ?_ }⟩
    · intro q hq
      rcases List.mem_cons.1 hq with rfl | hq
      · unfold kpsOf
        exact List.mem_map.2 ⟨e, List.mem_reverse.2 hem, rfl⟩
      · exact h.akP q hq
    · rw [List.map_cons]
      exact (h.seen.cons _).trans hp.symm
    · rw [hp.nodup_iff, List.nodup_cons]
      exact ⟨hout, h.nodup⟩

/-- The map of the flags that are set is made. -/
theorem PS.make (h : PS w B sb fb es0 es u (.map none) mv sl vb vn vt A L c ak ss) :
    PS ((w.setCell ⟨fb, 3, none⟩ (.map (some w.heap.size))).alloc (.map #[] 0)) B sb fb es0 es u (.map (some w.heap.size)) mv sl vb vn vt A L c ak ss := by
  have hak : ak = [] := by
    rcases h.actM with ⟨_, h⟩ | ⟨mb, h, _⟩
    · exact h
    · cases h
  subst hak
  have hsz : (w.setCell ⟨fb, 3, none⟩ (.map (some w.heap.size))).heap.size = w.heap.size := by simp [World.setCell]
  have ho := ((Off.refl (fun j => j = fb) w).setCell (p := ⟨fb, 3, none⟩) (fun _ => rfl) (.map (some w.heap.size))).alloc (.map #[] 0)
  have hown := World.ownsMap_made (w.setCell ⟨fb, 3, none⟩ (.map (some w.heap.size))) Tryz.prog 9 ptrElem
  rw [hsz] at hown
  refine { h with set := ?_, actM := .inr ⟨_, rfl, hown⟩, actB := ?_, args := ?_, base := Nat.le_trans h.base ho.size }
  · refine h.set.move ho (fun g t cs _ e => e) (fun i hi e => ?_) ((h.set.fset.set_ 3 _).alloc _)
    subst e
    exact h.set.map.noBlk h.set.fset hi
  · intro i hi
    cases hi
    exact ⟨h.base, fun hi => by have := h.set.map.lt _ hi; omega⟩
  · exact h.args.off ho (fun g cs _ hg e => by subst e; exact hg.ne_ h.set.fset (by decide) rfl)
end
end Go.Proofs.YtpcmiaablanmeaaGreatDoor
