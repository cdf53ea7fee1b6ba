/- slices.BinarySearch on a list in order, and what an insertion makes of it. -/
import Derived.Test.YtpcmiaablanmeaaGreatDoorIns
import Derived.Sort.Walk0
namespace Go.Proofs.YtpcmiaablanmeaaGreatDoor
open Go.RowKit Go.Lib

/-- Texts in order, each once. -/
def Sorted (ss : List ByteArray) : Prop := ss.Pairwise fun s t => s.data.toList < t.data.toList

/-- Where x belongs. -/
def PlaceOf (ss : List ByteArray) (x : ByteArray) (k : Nat) : Prop := k ≤ ss.length ∧ (∀ t s, t < k → ss[t]? = some s → s.data.toList < x.data.toList) ∧ ∀ t s, k ≤ t → ss[t]? = some s → ¬ s.data.toList < x.data.toList

theorem place_ex (x : ByteArray) : ∀ ss : List ByteArray, Sorted ss → ∃ k, PlaceOf ss x k
  | [], _ => ⟨0, Nat.le_refl _, fun t s h => absurd h (by omega), fun t s _ h => by simp at h⟩
  | a :: r, h => by
    obtain ⟨ha, hr⟩ := List.pairwise_cons.1 h
    by_cases hax : a.data.toList < x.data.toList
    · obtain ⟨k, hk, h1, h2⟩ := place_ex x r hr
      refine ⟨k + 1, by simp; omega, fun t s ht hs => ?_, fun t s ht hs => ?_⟩
      · cases t with
        | zero => simp at hs; subst hs; exact hax
        | succ t => exact h1 t s (by omega) (by simpa using hs)
      · cases t with
        | zero => omega
        | succ t => exact h2 t s (by omega) (by simpa using hs)
    · refine ⟨0, Nat.zero_le _, fun t s ht => absurd ht (by omega), fun t s _ hs => ?_⟩
      cases t with
      | zero => simp at hs; subst hs; exact hax
      | succ t =>
        have hm : s ∈ r := List.mem_of_getElem? (by simpa using hs)
        exact fun hlt => hax (List.lt_trans (ha s hm) hlt)

theorem data_inj' {s t : ByteArray} (h : s.data.toList = t.data.toList) : s = t := by
  cases s; cases t; congr; exact Array.toList_inj.1 h

theorem PlaceOf.sorted {ss : List ByteArray} {x : ByteArray} {k : Nat} (h : PlaceOf ss x k) (hs : Sorted ss) (hx : x ∉ ss) : Sorted (ss.take k ++ x :: ss.drop k) := by
  obtain ⟨hk, h1, h2⟩ := h
  unfold Sorted at hs ⊢
  have h0 : ss.take k ++ ss.drop k = ss := List.take_append_drop k ss
  have hp := hs
  rw [← h0, List.pairwise_append] at hp
  obtain ⟨p1, p2, p3⟩ := hp
  have hlo : ∀ s ∈ ss.take k, s.data.toList < x.data.toList := fun s hm => by
    obtain ⟨j, hj, rfl⟩ := List.mem_iff_getElem.1 hm
    rw [List.length_take] at hj
    exact h1 j _ (by omega) (by rw [List.getElem_take]; exact List.getElem?_eq_getElem _)
  have hhi : ∀ s ∈ ss.drop k, x.data.toList < s.data.toList := fun s hm => by
    have hms : s ∈ ss := List.mem_of_mem_drop hm
    obtain ⟨j, hj, rfl⟩ := List.mem_iff_getElem.1 hm
    rw [List.length_drop] at hj
    have hn := h2 (k + j) (ss.drop k)[j] (by omega) (by rw [List.getElem_drop]; exact List.getElem?_eq_getElem _)
    rcases Classical.em (x.data.toList < (ss.drop k)[j].data.toList) with h | h
    · exact h
    · exact absurd hms (by rw [data_inj' (List.le_antisymm (List.not_lt.1 h) (List.not_lt.1 hn))]; exact hx)
  rw [List.pairwise_append]
  refine ⟨p1, List.pairwise_cons.2 ⟨hhi, p2⟩, fun a ha b hb => ?_⟩
  rcases List.mem_cons.1 hb with rfl | hb
  · exact hlo a ha
  · exact p3 a ha b hb

theorem ins_perm (ss : List ByteArray) (x : ByteArray) (k : Nat) : (ss.take k ++ x :: ss.drop k).Perm (x :: ss) := by
  have h := List.perm_middle (a := x) (l₁ := ss.take k) (l₂ := ss.drop k)
  rwa [List.take_append_drop] at h

theorem place_found {ss : List ByteArray} {x : ByteArray} {k : Nat} (h : PlaceOf ss x k) (hs : Sorted ss) : x ∈ ss ↔ ∃ hk : k < ss.length, ss[k] = x := by
  obtain ⟨_, h1, h2⟩ := h
  constructor
  · intro hm
    obtain ⟨j, hj, rfl⟩ := List.mem_iff_getElem.1 hm
    have hjk : k ≤ j := by
      rcases Nat.lt_or_ge j k with h | h
      · exact absurd (h1 j _ h (List.getElem?_eq_getElem hj)) (List.lt_irrefl _)
      · exact h
    rcases Nat.eq_or_lt_of_le hjk with h | h
    · subst h; exact ⟨hj, rfl⟩
    · have := (List.pairwise_iff_getElem.1 hs) k j (by omega) hj h
      exact absurd this (h2 k _ (Nat.le_refl _) (List.getElem?_eq_getElem (by omega)))
  · rintro ⟨hk, rfl⟩
    exact List.getElem_mem hk

def hasT (ss : List ByteArray) (x : ByteArray) : Bool := ss.any fun s => decide (s = x)
theorem hasT_iff (ss : List ByteArray) (x : ByteArray) : hasT ss x = true ↔ x ∈ ss := by
  unfold hasT
  rw [List.any_eq_true]
  constructor
  · rintro ⟨s, hs, h⟩
    rw [← of_decide_eq_true h]; exact hs
  · intro h
    exact ⟨x, h, decide_eq_true rfl⟩

theorem search_own (sn : Value) (ss : List ByteArray) (x : ByteArray) (B : Nat) (w : World) (hown : w.ownsRow B 9 1 sn ss.length (ss.map Value.string)) (hs : Sorted ss) (hn : ss.length ≤ 2000) (k : Nat) (hP : PlaceOf ss x k) :
    Calls Tryz.prog 55 #[sn, .string x] w fun e w' => e = .returned (.tuple #[.int .i64 (k : Nat), .bool (hasT ss x)]) ∧ ∃ q, w' = w.drewN q := by
  have hf := place_found hP hs
  rcases hown.2 with ⟨rfl, h0⟩ | ⟨g, cap, cur, rfl, hg, hb, hnc, hcm, hcs, htk⟩
  · have hss : ss = [] := List.eq_nil_of_length_eq_zero h0
    subst hss
    have hk : k = 0 := by have := hP.1; simp at this; exact this
    subst hk
    refine (Any2.slices_BinarySearch_string_empty Tryz.bsL none 0 x w).mono ?_
    rintro e w' ⟨rfl, rfl⟩
    exact ⟨rfl, 0, rfl⟩
  · have hb : Blk w g 9 cur := hb
    have hml : (ss.map Value.string).length = ss.length := List.length_map _
    have hrow := row_cells hb (xs := ss.map Value.string) (by rw [hml, ← Nat.mul_one ss.length]; exact htk)
    let Sx : Nat → ByteArray := fun t => ss.getD t x
    have hat : ∀ t, ∀ ht : t < ss.length, Sx t = ss[t] := fun t ht => by
      show ss.getD t x = _
      rw [List.getD_eq_getElem?_getD, List.getElem?_eq_getElem ht]
      rfl
    have hout : ∀ t, ss.length ≤ t → Sx t = x := fun t ht => by
      show ss.getD t x = _
      rw [List.getD_eq_getElem?_getD, List.getElem?_eq_none ht]
      rfl
    have hS := Any2.slices_BinarySearch_string Tryz.bsL g 0 ss.length cap Sx x w (by omega) (fun j hj => hrow j _ (by rw [List.getElem?_map, List.getElem?_eq_getElem hj, hat j hj]; rfl))
    have hbs : Lib.bsGo (fun t => Op.bytesLess (Sx t).toList x.toList) ss.length 0 ss.length = k := by
      refine Lib.bsGo_spec _ k (fun t ht => ?_) (fun t ht => ?_) ss.length 0 ss.length (by omega) (by omega) hP.1
      · have htl : t < ss.length := by have := hP.1; omega
        rw [hat t htl, bytesLess_eq, ByteArray.toList_eq, ByteArray.toList_eq]
        exact decide_eq_true (hP.2.1 t _ ht (List.getElem?_eq_getElem htl))
      · rw [bytesLess_eq, ByteArray.toList_eq, ByteArray.toList_eq]
        rcases Nat.lt_or_ge t ss.length with h | h
        · rw [hat t h]
          exact decide_eq_false (hP.2.2 t _ ht (List.getElem?_eq_getElem h))
        · rw [hout t h]
          exact decide_eq_false (List.lt_irrefl _)
    rw [hbs] at hS
    refine Calls.mono hS ?_
    rintro e w' ⟨rfl, q, rfl⟩
    refine ⟨?_, q, rfl⟩
    have e1 : decide (k < ss.length ∧ Sx k = x) = hasT ss x := by
      rw [Bool.eq_iff_iff, decide_eq_true_iff, hasT_iff, hf]
      constructor
      · rintro ⟨h1, h2⟩; exact ⟨h1, by rw [← hat k h1]; exact h2⟩
      · rintro ⟨h1, h2⟩; exact ⟨h1, by rw [hat k h1]; exact h2⟩
    rw [e1]
end Go.Proofs.YtpcmiaablanmeaaGreatDoor
