/- sortFlags' own sort: slices.SortFunc over pointers to flags, by their names. -/
import Derived.Test.YtpcmiaablanmeaaGreatDoorMapP
import Derived.Test.YtpcmiaablanmeaaGreatDoorShelf
import Derived.Lib.ItoaWalk
import Derived.Maps.RangeWalk
import Derived.Deep.QuietTactic
import Derived.BigQuiet
namespace Go.Proofs.YtpcmiaablanmeaaGreatDoor
open Go.RowKit Go.Lib Go.Sort Go.Maps

theorem cb_lt : ∀ a b : List UInt8, compareBytes a b < 0 ↔ a < b
  | [], [] => by simp [compareBytes]
  | [], _ :: _ => by simp [compareBytes]
  | _ :: _, [] => by simp [compareBytes]
  | a :: xs, b :: ys => by
    have ih := cb_lt xs ys
    unfold compareBytes
    rw [List.cons_lt_cons_iff]
    by_cases h1 : a < b
    · simp [h1]
    · rw [if_neg h1]
      by_cases h2 : b < a
      · rw [if_pos h2]
        have hne : a ≠ b := fun e => by subst e; exact UInt8.lt_irrefl _ h2
        simp [h1, hne]
      · rw [if_neg h2, ih]
        have he : a = b := UInt8.le_antisymm (UInt8.not_lt.1 h2) (UInt8.not_lt.1 h1)
        simp [he]

def nameCf (s t : ByteArray) : Int := compareBytes s.data.toList t.data.toList
theorem nameCf_lt (s t : ByteArray) : decide (nameCf s t < 0) = decide (s.data.toList < t.data.toList) := by
  unfold nameCf; simp only [cb_lt]
theorem data_inj {s t : ByteArray} (h : s.data.toList = t.data.toList) : s = t := by
  cases s; cases t; congr; exact Array.toList_inj.1 h

/-- A name and the block of its flag, of a list. -/
abbrev Kp (kps : List (ByteArray × Nat)) := { p : ByteArray × Nat // p ∈ kps }
def kpEnc {kps : List (ByteArray × Nat)} (p : Kp kps) : Value := .pointer (some ⟨p.1.2, 0, none⟩)
def kpCf {kps : List (ByteArray × Nat)} (p q : Kp kps) : Int := nameCf p.1.1 q.1.1
theorem kp_lt {kps : List (ByteArray × Nat)} (p q : Kp kps) : ltOf kpCf p q = decide (p.1.1.data.toList < q.1.1.data.toList) := by
  unfold ltOf kpCf; exact nameCf_lt _ _
theorem kp_swo (kps : List (ByteArray × Nat)) : SWO (ltOf (kpCf (kps := kps))) where
  irrefl x := by rw [kp_lt]; simp
  trans x y z h1 h2 := by rw [kp_lt] at *; simp at *; exact List.lt_trans h1 h2
  ntrans x y z h1 h2 := by rw [kp_lt] at *; simp at *; exact List.le_trans h2 h1
theorem kp_tot {kps : List (ByteArray × Nat)} (hd : (kps.map (·.1)).Nodup) (p q : Kp kps) (h1 : ltOf kpCf p q = false) (h2 : ltOf kpCf q p = false) : p = q := by
  rw [kp_lt] at h1 h2
  simp at h1 h2
  have he := data_inj (List.le_antisymm h2 h1)
  obtain ⟨⟨s, b⟩, hp⟩ := p
  obtain ⟨⟨t, c⟩, hq⟩ := q
  simp only at he
  subst he
  congr 2
  rw [List.nodup_iff_pairwise_ne, List.pairwise_map] at hd
  rcases List.mem_iff_getElem.1 hp with ⟨i, hi, hpi⟩
  rcases List.mem_iff_getElem.1 hq with ⟨j, hj, hqj⟩
  rw [List.pairwise_iff_getElem] at hd
  rcases Nat.lt_trichotomy i j with h | h | h
  · exact absurd (by rw [hpi, hqj]) (hd i j hi hj h)
  · subst h; have := hpi.symm.trans hqj; injection this
  · exact absurd (by rw [hpi, hqj]) (hd j i hj hi h)

set_option maxHeartbeats 1000000 in
/-- The closure: in whatever world the two names are read. -/
theorem byName (a b : Nat) (s t : ByteArray) (W : World) (ha : W.cell? ⟨a, 0, none⟩ = some (.string s)) (hb : W.cell? ⟨b, 0, none⟩ = some (.string t)) :
    Calls Tryz.prog 87 #[.pointer (some ⟨a, 0, none⟩), .pointer (some ⟨b, 0, none⟩)] W fun e w' => e = .returned (.int .i64 (nameCf s t)) ∧ ∃ q, w' = W.drewN q := by
  have hcon := Tryz.strings_Compare s t
  change ∀ w, Calls Tryz.prog _ _ _ (fun e w' => e = .returned (.int .i64 (nameCf s t)) ∧ w' = w) at hcon
  generalize nameCf s t = r at hcon ⊢
  go_enter Tryz.func87, Tryz.ntmps87
  go_wp2
  go_quiet ((go_at_call 88; exact Calls.quiet_of_same (hcon _)))
  go_wp2
  go_ret
  exact ⟨rfl, _, rfl⟩

theorem Off.cell {S : Nat → Prop} {w w' : World} {p : Addr} (h : Off S w w') (hp : p.block < w.heap.size) (hn : ¬ S p.block) : w'.cell? p = w.cell? p := by
  unfold World.cell?
  rw [h.block p.block hp hn]

theorem off_sortWorld {α : Type} [Inhabited α] (enc : α → Value) (w : World) (blk off m : Nat) (dk : Array α) (os : Array Obj) : Off (fun i => i = blk) w (sortWorld enc w blk off m dk os) where
  os := rfl
  tape := rfl
  output := rfl
  size := by simp [sortWorld, grow, putRow, Go.Sort.mapBlock]
  block i hi hn := by
    simp only [sortWorld, grow, putRow, Go.Sort.mapBlock]
    rw [Array.getElem?_append_left (by simpa using hi), Array.getElem?_modify, if_neg (fun e => hn e.symm)]
    rfl

/-- Names in order. -/
def ByName (ks : List (ByteArray × Nat)) : Prop := ks.Pairwise fun p q => p.1.data.toList ≤ q.1.data.toList

/-- What slices.SortFunc leaves. -/
def SortPost (kps : List (ByteArray × Nat)) (blk : Nat) (w : World) (e : Ending) (w' : World) : Prop :=
  e = .returned (.tuple #[]) ∧ ∃ ks : List (ByteArray × Nat), ks.Perm kps ∧ ByName ks ∧ (∀ j p, ks[j]? = some p → w'.cell? ⟨blk, j, none⟩ = some (.pointer (some ⟨p.2, 0, none⟩))) ∧ Off (fun i => i = blk) w w'

theorem sortCall (kps done : List (ByteArray × Nat)) (hd : (kps.map (·.1)).Nodup) (hk : kps.length < 2000) (hp : done.Perm kps) (blk cap : Nat) (w : World) (hblk : blk < w.heap.size) (hcell : ∀ j p, done[j]? = some p → w.cell? ⟨blk, j, none⟩ = some (.pointer (some ⟨p.2, 0, none⟩)) ∧ w.frozen? ⟨blk, j, none⟩ = false)
    (hname : ∀ p ∈ kps, p.2 ≠ blk ∧ w.cell? ⟨p.2, 0, none⟩ = some (.string p.1)) :
    Calls Tryz.prog 86 #[.slice (some ⟨blk, 0, none⟩) kps.length cap, .func (.func 87) #[] #[]] w (SortPost kps blk w) := by
  rcases kps with _ | ⟨k0, kr⟩
  · have hS := AnyF.slices_SortFunc_none (P := Tryz.prog) (ρ := Tryz.sortF_ren) { Tryz.sortF with } (some ⟨blk, 0, none⟩) cap (.func (.func 87) #[] #[]) w
    refine Calls.mono hS ?_
    rintro e w' ⟨rfl, rfl⟩
    exact ⟨rfl, [], List.Perm.refl _, List.Pairwise.nil, fun j p h => by simp at h, Off.refl _ _⟩
  · generalize hkps : k0 :: kr = kps at *
    haveI : Inhabited (Kp kps) := ⟨⟨k0, by rw [← hkps]; exact List.mem_cons_self⟩⟩
    have hlt : ∀ p ∈ kps, p.2 < w.heap.size := fun p hp => by
      have h := (hname p hp).2
      unfold World.cell? at h
      split at h
      · rename_i hb; exact (Array.getElem?_eq_some_iff.1 hb).1
      · cases h
    have eg : ∀ args w, (callFunc 87 args).run Tryz.prog w = .ok (.enter 87 args) w := enters_of Tryz.func87 (by kernel_rfl) rfl
    have hcmp : CmpReads Tryz.prog 87 #[] (kpEnc (kps := kps)) kpCf blk 0 kps.length w := fun m os dk _ x y => by
      have hx := hname x.1 x.2
      have hy := hname y.1 y.2
      exact byName x.1.2 y.1.2 x.1.1 y.1.1 _ (((off_sortWorld _ w blk 0 m dk os).cell (p := ⟨x.1.2, 0, none⟩) (hlt _ x.2) hx.1).trans hx.2) (((off_sortWorld _ w blk 0 m dk os).cell (p := ⟨y.1.2, 0, none⟩) (hlt _ y.2) hy.1).trans hy.2)
    let dl : List (Kp kps) := done.attachWith (· ∈ kps) (fun p h => hp.subset h)
    have hdv : dl.map Subtype.val = done := List.attachWith_map_subtype_val _
    have hlen : dl.length = kps.length := by rw [← hp.length_eq, ← hdv, List.length_map]
    have hat : ∀ j, j < dl.length → done[j]? = some (dl.toArray[j]!).1 := fun j hj => by
      rw [← hdv, List.getElem?_map, List.getElem?_eq_getElem hj]
      simp [hj]
    have hH : Holds (kpEnc (kps := kps)) w blk 0 dl.toArray := fun j hj => by
      have h := hcell j _ (hat j (by simpa using hj))
      rw [Nat.zero_add]
      exact h
    have hS := Any.slices_SortFunc_total Tryz.sortF (kpEnc (kps := kps)) (fun _ => rfl) kpCf (kp_swo kps) 87 #[] blk 0 cap dl.toArray w eg (by rw [List.size_toArray, hlen]; exact hcmp.lays) hH hblk (by rw [List.size_toArray, hlen]; omega) (kp_tot hd)
    rw [List.size_toArray, hlen] at hS
    refine Calls.mono hS ?_
    rintro e w' ⟨rfl, n, os, rfl⟩
    generalize hR : (dl.toArray.toList.mergeSort fun x y => !ltOf kpCf y x) = R
    have hRp : R.Perm dl := by rw [← hR]; exact List.mergeSort_perm _ _
    refine ⟨rfl, R.map Subtype.val, ?_, ?_, ?_, off_sortWorld _ _ _ _ _ _ _⟩
    · exact ((hRp.map _).trans (by rw [hdv])).trans hp
    · unfold ByName
      rw [List.pairwise_map]
      have hs : R.Pairwise fun x y => (!ltOf kpCf y x) = true := by
        rw [← hR]
        refine List.pairwise_mergeSort ?_ ?_ _
        · intro a b c h1 h2
          simp only [Bool.not_eq_true'] at h1 h2 ⊢
          exact (kp_swo kps).ntrans _ _ _ h2 h1
        · intro a b
          rw [kp_lt, kp_lt]
          simp
          exact List.le_total _ _
      exact hs.imp fun {a b} h => by rw [kp_lt] at h; simpa using h
    · intro j p hj
      rw [List.getElem?_map] at hj
      cases hRj : R[j]? with
      | none => rw [hRj] at hj; cases hj
      | some x =>
        rw [hRj] at hj
        cases hj
        have hjl : j < R.length := (List.getElem?_eq_some_iff.1 hRj).1
        have h := (holds_sortWorld (kpEnc (kps := kps)) w blk 0 n dl.toArray R.toArray os hblk hH (by simp [hRp.length_eq]) j (by simpa using hjl)).1
        rw [Nat.zero_add] at h
        rw [h]
        have : R.toArray[j]! = x := by
          rw [getElem!_pos _ j (by simpa using hjl)]
          simpa using (List.getElem?_eq_some_iff.1 hRj).2
        rw [this]
        rfl
end Go.Proofs.YtpcmiaablanmeaaGreatDoor
