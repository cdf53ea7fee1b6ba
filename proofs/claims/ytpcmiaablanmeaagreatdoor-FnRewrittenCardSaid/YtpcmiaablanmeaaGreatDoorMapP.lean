/- The maps of a set of flags, from names to flags: what a look-up and a store do. -/
import Derived.Test.YtpcmiaablanmeaaGreatDoorMem
namespace Go.Proofs.YtpcmiaablanmeaaGreatDoor
open Go.RowKit Go.Maps

theorem Tryz.keyed : Keyed Tryz.prog 9 := string_keyed Tryz.underlying9
theorem Tryz.zeroFlagPtr (w : World) : (zeroValue 90).run Tryz.prog w = .ok (.pointer none) w := by kernel_rfl
theorem Tryz.zeroStr (w : World) : (zeroValue 9).run Tryz.prog w = .ok (.string ⟨#[]⟩) w := by kernel_rfl

theorem mapD_isMap : ∀ kps : List (ByteArray × Nat), IsMap (mapD kps)
  | [] => isMap_empty
  | (_, _) :: r => (mapD_isMap r).put _ _

theorem keyLit_inj {s t : ByteArray} (h : keyLit s = keyLit t) : s = t := by
  unfold keyLit at h
  injection h with h
  cases s; cases t; congr; exact Array.toList_inj.1 h

theorem mapD_has (s : ByteArray) : ∀ kps : List (ByteArray × Nat), Maps.has (mapD kps) (keyLit s) = kps.any (fun p => decide (p.1 = s))
  | [] => rfl
  | (t, b) :: r => by
    unfold mapD
    by_cases h : t = s
    · subst h
      rw [has_put_same (k := keyLit t) (mapD_isMap r) (by unfold keyLit; trivial)]
      simp
    · rw [has_put_other (fun e => h (keyLit_inj e).symm), mapD_has s r]
      simp [h]

theorem mapD_at (s : ByteArray) (z : DataW Unit) : ∀ kps : List (ByteArray × Nat), (mapD kps).atKey (keyLit s) z = match kps.find? (fun p => decide (p.1 = s)) with | some p => ptrD p.2 | none => z
  | [] => rfl
  | (t, b) :: r => by
    unfold mapD
    by_cases h : t = s
    · subst h
      rw [atKey_put_same (k := keyLit t) (mapD_isMap r) (by unfold keyLit; trivial)]
      simp
    · rw [atKey_put_other (fun e => h (keyLit_inj e).symm), mapD_at s z r]
      simp [h]

/-- A map value, nil or not, that holds just these entries; the newest first. -/
def MapIs (w : World) (mv : Value) (kps : List (ByteArray × Nat)) : Prop :=
  (mv = .map none ∧ kps = []) ∨ ∃ mb, mv = .map (some mb) ∧ w.ownsMap Tryz.prog 9 ptrElem mb kps.length (mapD kps)

/-- The block that a map value leads to. -/
def mapBlock : Value → Nat → Prop
  | .map (some b), i => i = b
  | _, _ => False

theorem MapIs.off {S : Nat → Prop} {w w' : World} {mv : Value} {kps : List (ByteArray × Nat)} (h : MapIs w mv kps) (ho : Off S w w') (hs : ∀ i, mapBlock mv i → ¬ S i) : MapIs w' mv kps := by
  rcases h with ⟨rfl, rfl⟩ | ⟨mb, rfl, hown⟩
  · exact .inl ⟨rfl, rfl⟩
  · obtain ⟨es, clock, hb, F, hsz, hD⟩ := hown
    exact .inr ⟨mb, rfl, es, clock, (ho.block mb (Array.getElem?_eq_some_iff.1 hb).1 (hs mb rfl)).trans hb, F, hsz, hD⟩
theorem MapIs.lt {w : World} {mv : Value} {kps : List (ByteArray × Nat)} (h : MapIs w mv kps) : ∀ i, mapBlock mv i → i < w.heap.size := by
  rcases h with ⟨rfl, rfl⟩ | ⟨mb, rfl, hown⟩
  · intro i hi; exact hi.elim
  · intro i hi; cases hi; exact hown.lt
theorem MapIs.noBlk {w : World} {mv : Value} {kps : List (ByteArray × Nat)} (h : MapIs w mv kps) {g : Nat} {t : TypeId} {cs : Array Value} (hb : Blk w g t cs) : ¬ mapBlock mv g := by
  rcases h with ⟨rfl, rfl⟩ | ⟨mb, rfl, es, clock, hm, _⟩
  · intro hi; exact hi.elim
  · intro hi; cases hi; unfold Blk at hb; rw [hm] at hb; cases hb

theorem owns_ne {w : World} {mb n : Nat} {D : DataW Unit} (h : w.ownsMap Tryz.prog 9 ptrElem mb n D) {g : Nat} {t : TypeId} {cs : Array Value} (hb : Blk w g t cs) : g ≠ mb := by
  rintro rfl
  obtain ⟨es, clock, hm, _⟩ := h
  unfold Blk at hb; rw [hm] at hb; cases hb

/-- What a name leads to: the look-up's answer. -/
def ptrOf (kps : List (ByteArray × Nat)) (s : ByteArray) : Value := match kps.find? (fun p => decide (p.1 = s)) with
  | some p => .pointer (some ⟨p.2, 0, none⟩)
  | none => .pointer none

theorem ptrOf_eq (kps : List (ByteArray × Nat)) (s : ByteArray) (v : Value) (ps : List MemPlace) (hv : ptrElem v = some (match kps.find? (fun p => decide (p.1 = s)) with | some p => ptrD p.2 | none => .nil, ps)) : v = ptrOf kps s := by
  unfold ptrOf
  split at hv
  · exact ptrElem_inv hv
  · exact ptrElem_nil hv

theorem MapIs.look_ok {w : World} {mv : Value} {kps : List (ByteArray × Nat)} (h : MapIs w mv kps) (s : ByteArray) (hs : s.size ≤ maxLen) :
    (Instr.lookup 79 mv (.string s) true).run Tryz.prog w = .ok (.tuple #[ptrOf kps s, .bool (kps.any (fun p => decide (p.1 = s)))]) w := by
  have hkey : keyOf Tryz.prog 9 (.string s) = some (keyLit s) := WideMaps.keyOf_string_mk Tryz.underlying9 hs
  rcases h with ⟨rfl, rfl⟩ | ⟨mb, rfl, hown⟩
  · exact Maps.look_nil true Tryz.keyed Tryz.underlying79 (Tryz.zeroFlagPtr w) hkey
  · obtain ⟨v, ps, hrun, hv⟩ := hown.look_ok Tryz.keyed Tryz.underlying79 (Tryz.zeroFlagPtr w) (zd := .nil) (zp := []) rfl hkey
    rw [mapD_has] at hrun
    rw [mapD_at] at hv
    rw [hrun, ptrOf_eq kps s v ps hv]
theorem MapIs.look {w : World} {mv : Value} {kps : List (ByteArray × Nat)} (h : MapIs w mv kps) (s : ByteArray) (hs : s.size ≤ maxLen) :
    (Instr.lookup 79 mv (.string s) false).run Tryz.prog w = .ok (ptrOf kps s) w := by
  have hkey : keyOf Tryz.prog 9 (.string s) = some (keyLit s) := WideMaps.keyOf_string_mk Tryz.underlying9 hs
  rcases h with ⟨rfl, rfl⟩ | ⟨mb, rfl, hown⟩
  · exact Maps.look_nil false Tryz.keyed Tryz.underlying79 (Tryz.zeroFlagPtr w) hkey
  · obtain ⟨v, ps, hrun, hv⟩ := hown.lookup Tryz.keyed Tryz.underlying79 (Tryz.zeroFlagPtr w) (zd := .nil) (zp := []) rfl hkey
    rw [mapD_at] at hv
    rw [hrun, ptrOf_eq kps s v ps hv]

theorem look_undef (w : World) (s : ByteArray) (hs : s.size ≤ maxLen) : (Instr.lookup 80 (.map none) (.string s) false).run Tryz.prog w = .ok (.string ⟨#[]⟩) w :=
  Maps.look_nil false Tryz.keyed Tryz.underlying80 (Tryz.zeroStr w) (WideMaps.keyOf_string_mk Tryz.underlying9 hs)

/-- 'm[name] = a flag'. -/
theorem ownsMap_put {w : World} {mb : Nat} {kps : List (ByteArray × Nat)} (h : w.ownsMap Tryz.prog 9 ptrElem mb kps.length (mapD kps)) (hn : kps.length < 2000) (s : ByteArray) (hs : s.size ≤ maxLen) (p : Nat) :
    ∃ w', (Instr.mapUpdate 79 (.map (some mb)) (.string s) (.pointer (some ⟨p, 0, none⟩))).run Tryz.prog w = .ok () w' ∧ w'.ownsMap Tryz.prog 9 ptrElem mb ((s, p) :: kps).length (mapD ((s, p) :: kps)) ∧ w.grownBy w' (some mb) :=
  h.update Tryz.keyed Tryz.underlying79 (by unfold maxLen; omega) (WideMaps.keyOf_string_mk Tryz.underlying9 hs) (ptrElem_mk p)
end Go.Proofs.YtpcmiaablanmeaaGreatDoor
