/- A set of flags while arguments are read: what is kept and how it moves. No function is looked at. -/
import Derived.Test.YtpcmiaablanmeaaGreatDoorReads
import Derived.Test.YtpcmiaablanmeaaGreatDoorTexts
namespace Go.Proofs.YtpcmiaablanmeaaGreatDoor
open Go.RowKit Go.Maps Go.Lib

section
variable {w w' : World} {B sb fb : Nat} {es nb nn nt : List Ent} {u : Value} {parsed : Bool} {act mv args sl vb vn vt : Value}

/-- The set's own block is written; maps are touched, too. -/
theorem SetW.move (h : SetW w B sb fb es nb nn nt u parsed act mv args sl vb vn vt) {S : Nat → Prop} (ho : Off S w w') (hS : ∀ g t cs, Blk w g t cs → S g → g = fb) (hm : ∀ i, mapBlock mv i → ¬ S i) {parsed' : Bool} {act' args' : Value}
    (hf : Blk w' fb 82 (fsCells u parsed' act' mv args')) : SetW w' B sb fb es nb nn nt u parsed' act' mv args' sl vb vn vt := by
  have hk : ∀ g t cs, Blk w g t cs → t ≠ 82 → Blk w' g t cs := fun g t cs hg hne => hg.off ho (fun hs => by
    have := hS g t cs hg hs
    subst this
    exact hg.ne_ h.fset hne rfl)
  have hrow : ∀ e n v xs, w.ownsRow B e 1 v n xs → e ≠ 82 → w'.ownsRow B e 1 v n xs := fun e n v xs hr hne => by
    rcases hr with ⟨hl, ⟨rfl, rfl⟩ | ⟨g, cap, cur, rfl, hb, hg, rest⟩⟩
    · exact ⟨hl, .inl ⟨rfl, rfl⟩⟩
    · exact ⟨hl, .inr ⟨g, cap, cur, rfl, hb, hk g e cur hg hne, rest⟩⟩
  exact {
    set := hk _ _ _ h.set (by decide)
    fset := hf
    map := h.map.off ho hm
    flags := fun e he => hk _ _ _ (h.flags e he) (by decide)
    vars := fun e he => hk _ _ _ (h.vars e he) (FD.varT_ne _ _ (by decide) (by decide) (by decide))
    rowB := hrow _ _ _ _ h.rowB (by decide)
    rowN := hrow _ _ _ _ h.rowN (by decide)
    rowT := hrow _ _ _ _ h.rowT (by decide)
    setB := h.setB
    fsetB := h.fsetB
    mapB := h.mapB
    flagsB := h.flagsB
    apart := h.apart }

theorem Ent.cells_same {e : Ent} {f' : FD} (hn : f'.name = e.f.name ∧ f'.kind = e.f.kind) : (Ent.mk f' e.p e.v e.d).cells = e.cells := by
  unfold Ent.cells FD.ifT
  simp only [hn.1, hn.2]
theorem FD.varT_same {f f' : FD} (h : f'.kind = f.kind) : f'.varT = f.varT := by unfold FD.varT; rw [h]

theorem kpsOf_set {i : Nat} {e : Ent} (he : es[i]? = some e) {f' : FD} (hn : f'.name = e.f.name) : kpsOf (es.set i ⟨f', e.p, e.v, e.d⟩) = kpsOf es := by
  unfold kpsOf
  rw [List.map_reverse, List.map_reverse]
  congr 1
  apply List.ext_getElem?
  intro j
  rw [List.getElem?_map, List.getElem?_map]
  by_cases hj : i = j
  · subst hj
    rw [List.getElem?_set_self (List.getElem?_eq_some_iff.1 he).1, he]
    simp [hn]
  · rw [List.getElem?_set_ne hj]

theorem mem_set_ {i : Nat} {e e' a : Ent} (he : es[i]? = some e) (h : a ∈ es.set i e') : a = e' ∨ ∃ j, i ≠ j ∧ es[j]? = some a := by
  obtain ⟨j, hj, hje⟩ := List.mem_iff_getElem.1 h
  have h2 : (es.set i e')[j]? = some a := by rw [← hje]; exact List.getElem?_eq_getElem hj
  by_cases hij : i = j
  · subst hij
    rw [List.getElem?_set_self (List.getElem?_eq_some_iff.1 he).1] at h2
    exact .inl (Option.some.inj h2).symm
  · rw [List.getElem?_set_ne hij] at h2
    exact .inr ⟨j, hij, h2⟩

theorem apart_at (h : es.Pairwise fun a b => a.p ≠ b.p ∧ a.v ≠ b.v) {i j : Nat} {a b : Ent} (ha : es[i]? = some a) (hb : es[j]? = some b) (hij : i ≠ j) : a.p ≠ b.p ∧ a.v ≠ b.v := by
  obtain ⟨hi, rfl⟩ := List.getElem?_eq_some_iff.1 ha
  obtain ⟨hj, rfl⟩ := List.getElem?_eq_some_iff.1 hb
  rcases Nat.lt_or_gt_of_ne hij with h1 | h1
  · exact List.pairwise_iff_getElem.1 h i j hi hj h1
  · have := List.pairwise_iff_getElem.1 h j i hj hi h1
    exact ⟨fun e => this.1 e.symm, fun e => this.2 e.symm⟩

/-- A flag's variable is written. -/
theorem SetW.put (h : SetW w B sb fb es nb nn nt u parsed act mv args sl vb vn vt) {i : Nat} {e : Ent} (he : es[i]? = some e) {f' : FD} (hn : f'.name = e.f.name ∧ f'.kind = e.f.kind) (ho : Off (fun j => j = e.v) w w') (hv : Blk w' e.v e.f.varT #[f'.cur]) :
    SetW w' B sb fb (es.set i ⟨f', e.p, e.v, e.d⟩) nb nn nt u parsed act mv args sl vb vn vt := by
  have hem : e ∈ es := List.mem_of_getElem? he
  have hvv := h.vars e hem
  have hk : ∀ g t cs, Blk w g t cs → 4 ≠ t → 3 ≠ t → 9 ≠ t → Blk w' g t cs := fun g t cs hg h0 h1 h2 => hg.off ho (fun hs => by
    subst hs
    exact hvv.ne_ hg (FD.varT_ne _ _ h0 h1 h2) rfl)
  have hrow : ∀ t n v xs, w.ownsRow B t 1 v n xs → 4 ≠ t → 3 ≠ t → 9 ≠ t → w'.ownsRow B t 1 v n xs := fun t n v xs hr h0 h1 h2 => by
    rcases hr with ⟨hl, ⟨rfl, rfl⟩ | ⟨g, cap, cur, rfl, hb, hg, rest⟩⟩
    · exact ⟨hl, .inl ⟨rfl, rfl⟩⟩
    · exact ⟨hl, .inr ⟨g, cap, cur, rfl, hb, hk g t cur hg h0 h1 h2, rest⟩⟩
  have hmem : ∀ a ∈ es.set i ⟨f', e.p, e.v, e.d⟩, ∃ b ∈ es, a.p = b.p ∧ a.v = b.v := fun a ha => by
    rcases mem_set_ he ha with rfl | ⟨j, _, hj⟩
    · exact ⟨e, hem, rfl, rfl⟩
    · exact ⟨a, List.mem_of_getElem? hj, rfl, rfl⟩
  exact {
    set := hk _ _ _ h.set (by decide) (by decide) (by decide)
    fset := hk _ _ _ h.fset (by decide) (by decide) (by decide)
    map := by
      rw [kpsOf_set he hn.1]
      exact h.map.off ho (fun j hj e => by subst e; exact h.map.noBlk hvv hj)
    flags := fun a ha => by
      rcases mem_set_ he ha with rfl | ⟨j, _, hj⟩
      · rw [Ent.cells_same hn]
        exact hk _ _ _ (h.flags e hem) (by decide) (by decide) (by decide)
      · exact hk _ _ _ (h.flags a (List.mem_of_getElem? hj)) (by decide) (by decide) (by decide)
    vars := fun a ha => by
      rcases mem_set_ he ha with rfl | ⟨j, hij, hj⟩
      · show Blk w' e.v f'.varT _
        rw [FD.varT_same hn.2]
        exact hv
      · exact (h.vars a (List.mem_of_getElem? hj)).off ho (fun e1 => (apart_at h.apart he hj hij).2 e1.symm)
    rowB := hrow _ _ _ _ h.rowB (by decide) (by decide) (by decide)
    rowN := hrow _ _ _ _ h.rowN (by decide) (by decide) (by decide)
    rowT := hrow _ _ _ _ h.rowT (by decide) (by decide) (by decide)
    setB := h.setB
    fsetB := h.fsetB
    mapB := h.mapB
    flagsB := fun a ha => by
      obtain ⟨b, hb, h1, h2⟩ := hmem a ha
      rw [h1, h2]
      exact h.flagsB b hb
    apart := by
      rw [List.pairwise_iff_getElem]
      intro a b ha hb hab
      have key : ∀ k (hk : k < (es.set i ⟨f', e.p, e.v, e.d⟩).length), ∃ x, es[k]? = some x ∧ ((es.set i ⟨f', e.p, e.v, e.d⟩)[k]).p = x.p ∧ ((es.set i ⟨f', e.p, e.v, e.d⟩)[k]).v = x.v := fun k hk => by
        rw [List.length_set] at hk
        by_cases hik : i = k
        · subst hik
          exact ⟨e, he, by simp, by simp⟩
        · exact ⟨es[k], List.getElem?_eq_getElem hk, by rw [List.getElem_set_ne hik], by rw [List.getElem_set_ne hik]⟩
      obtain ⟨x, hx, hx1, hx2⟩ := key a ha
      obtain ⟨y, hy, hy1, hy2⟩ := key b hb
      rw [hx1, hx2, hy1, hy2]
      exact apart_at h.apart hx hy (by omega) }
end

/-- A list of texts in a block of the call's own. -/
def ArgsAt (w : World) (N : Nat → Prop) (A : Option Addr) (L : List ByteArray) : Prop := ∃ ab off acs, A = some ⟨ab, off, none⟩ ∧ N ab ∧ Blk w ab 9 acs ∧ ∀ (j : Nat) s, L[j]? = some s → acs[off + j]? = some (.string s)

theorem ArgsAt.off {w w' : World} {N : Nat → Prop} {A : Option Addr} {L : List ByteArray} (h : ArgsAt w N A L) {S : Nat → Prop} (ho : Off S w w') (hs : ∀ g cs, N g → Blk w g 9 cs → ¬ S g) : ArgsAt w' N A L := by
  obtain ⟨ab, off, acs, h1, h2, h3, h4⟩ := h
  exact ⟨ab, off, acs, h1, h2, h3.off ho (hs ab acs h2 h3), h4⟩
theorem ArgsAt.tail {w : World} {N : Nat → Prop} {ab off : Nat} {s : ByteArray} {r : List ByteArray} (h : ArgsAt w N (some ⟨ab, off, none⟩) (s :: r)) (cap : Nat) (hc : (s :: r).length ≤ cap) : ArgsAt w N (if cap = 1 then some ⟨ab, off, none⟩ else some ⟨ab, off + 1, none⟩) r := by
  obtain ⟨ab', off', acs, h1, h2, h3, h4⟩ := h
  cases h1
  simp only [List.length_cons] at hc
  by_cases h1 : cap = 1
  · rw [if_pos h1]
    have hr : r = [] := List.eq_nil_of_length_eq_zero (by omega)
    subst hr
    exact ⟨ab, off, acs, rfl, h2, h3, fun j s' hj => by simp at hj⟩
  · rw [if_neg h1]
    exact ⟨ab, off + 1, acs, rfl, h2, h3, fun j s' hj => by
      have := h4 (j + 1) s' (by simpa using hj)
      rw [Nat.add_assoc, Nat.add_comm 1 j]
      exact this⟩
theorem ArgsAt.cell {w : World} {N : Nat → Prop} {A : Option Addr} {s : ByteArray} {r : List ByteArray} (h : ArgsAt w N A (s :: r)) : ∃ ab off, A = some ⟨ab, off, none⟩ ∧ w.cell? ⟨ab, off, none⟩ = some (.string s) := by
  obtain ⟨ab, off, acs, h1, _, h3, h4⟩ := h
  exact ⟨ab, off, h1, by rw [h3.cell]; exact h4 0 s rfl⟩

/-- A set of flags while arguments are read: es0 as they were defined, es as they are, ak the flags that were set, L the arguments that are left. -/
structure PS (w : World) (B sb fb : Nat) (es0 es : List Ent) (u act mv sl vb vn vt : Value) (A : Option Addr) (L : List ByteArray) (c : Nat) (ak : List (ByteArray × Nat)) (ss : List ByteArray) : Prop where
  set : SetW w B sb fb es es0 es0 es0 u true act mv (.slice A L.length c) sl vb vn vt
  actM : MapIs w act ak
  actB : ∀ i, mapBlock act i → B ≤ i ∧ ¬ mapBlock mv i
  akP : ∀ p ∈ ak, p ∈ kpsOf es
  seen : (ak.map (·.1)).Perm ss
  nodup : ss.Nodup
  args : ArgsAt w (fun b => B ≤ b ∧ ∀ e ∈ es, b ≠ e.v) A L
  cap : L.length ≤ c
  few : es.length ≤ 100
  names : (es.map fun e => e.f.name).Nodup
  base : B ≤ w.heap.size
  old : es.map (fun e => (e.v, e.f.kind)) = es0.map (fun e => (e.v, e.f.kind))

theorem find_kps {l : List (ByteArray × Nat)} (hn : (l.map (·.1)).Nodup) {p : ByteArray × Nat} (hp : p ∈ l) : l.find? (fun q => decide (q.1 = p.1)) = some p ∧ l.any (fun q => decide (q.1 = p.1)) = true := by
  refine ⟨?_, List.any_eq_true.2 ⟨p, hp, by simp⟩⟩
  induction l with
  | nil => cases hp
  | cons a r ih =>
    rw [List.map_cons, List.nodup_cons] at hn
    rcases List.mem_cons.1 hp with rfl | h
    · simp
    · have hne : a.1 ≠ p.1 := fun e => hn.1 (by rw [e]; exact List.mem_map_of_mem h)
      rw [List.find?_cons]
      simp only [hne, decide_false]
      exact ih hn.2 h

theorem kps_at {es : List Ent} (hn : (es.map fun e => e.f.name).Nodup) {e : Ent} (he : e ∈ es) : ptrOf (kpsOf es) e.f.name = .pointer (some ⟨e.p, 0, none⟩) ∧ (kpsOf es).any (fun q => decide (q.1 = e.f.name)) = true := by
  have hn' : ((kpsOf es).map (·.1)).Nodup := by
    unfold kpsOf
    rw [List.map_map, List.map_reverse]
    exact (List.reverse_perm _).nodup_iff.2 hn
  have hm : (e.f.name, e.p) ∈ kpsOf es := by
    unfold kpsOf
    exact List.mem_map.2 ⟨e, List.mem_reverse.2 he, rfl⟩
  obtain ⟨h1, h2⟩ := find_kps hn' hm
  refine ⟨?_, h2⟩
  unfold ptrOf
  simp only at h1
  rw [h1]

end Go.Proofs.YtpcmiaablanmeaaGreatDoor
