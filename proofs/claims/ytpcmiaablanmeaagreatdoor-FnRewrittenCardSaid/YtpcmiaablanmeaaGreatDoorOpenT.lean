/- What a []string that came in is. -/
import Derived.Test.YtpcmiaablanmeaaGreatDoorOpen
import Derived.Test.YtpcmiaablanmeaaGreatDoorTexts
namespace Go.Proofs.YtpcmiaablanmeaaGreatDoor
open Go.ChangeShapes Go.WideShapes Go.Deep Go.RowKit

theorem open_nil {H : Type} {enc : TypeId × Value → H} {w : World} {base : Nat} {spare : Nat → Bool} {held : Bool} {A : Option Addr} {len cap : Nat} {d : DataW H} {p : List MemPlace}
    (h : DataW.Trod enc Tryz.prog w base spare held 22 (.slice A len cap) d p) : A = none → cap = 0 := by
  obtain ⟨fuel, hf⟩ := h
  rcases open_slice flag_slice hf with ⟨hcs, _⟩ | ⟨a, l, c, m, n, D, Pl, hcs, _⟩
  · simp [Value.cells] at hcs
    exact fun _ => hcs.2.2
  · simp [Value.cells] at hcs
    intro h
    rw [h] at hcs
    cases hcs.1

/-- A []string that came in, as data. -/
theorem open_texts {H : Type} {enc : TypeId × Value → H} {w : World} {base : Nat} {spare : Nat → Bool} {held : Bool} {A : Option Addr} {len cap : Nat} {d : DataW H} {p : List MemPlace}
    (h : DataW.Trod enc Tryz.prog w base spare held 26 (.slice A len cap) d p) :
    ∃ ts : List ByteArray, ts.length = len ∧ len ≤ cap ∧ cap ≤ 9223372036854775807 ∧ TextsIn w w.heap.size A ts ∧ (A = none → cap = 0) ∧ ∀ s ∈ ts, s.size ≤ 9223372036854775807 := by
  obtain ⟨fuel, hf⟩ := h
  have hM : maxLen = 9223372036854775807 := rfl
  rcases open_strings Tryz.underlying26 Tryz.underlying9 (by kernel_rfl) hf with ⟨hcs, _⟩ | ⟨a, l, c, ss, hcs, _, hl, hm, hss, _, hc, hz⟩
  · simp [Value.cells] at hcs
    obtain ⟨rfl, rfl, rfl⟩ := hcs
    exact ⟨[], rfl, Nat.le_refl _, by omega, fun i h => absurd h (Nat.not_lt_zero i), (fun _ => rfl), (fun f h => absurd h List.not_mem_nil)⟩
  · simp [Value.cells] at hcs
    obtain ⟨rfl, rfl, rfl⟩ := hcs
    have hlm : len ≤ ss.length := by rw [hss]; split <;> omega
    refine ⟨ss.take len, by rw [List.length_take]; omega, hl, by omega, ?_, (fun h => by cases h), fun s hs => by rw [← hM]; exact hz s (List.mem_of_mem_take hs)⟩
    intro i hi
    rw [List.length_take] at hi
    have c0 := hc 0 (by omega)
    have ha0 : a.add 0 = a := by simp [Addr.add]
    rw [ha0] at c0
    have hsp := World.cell?_spot c0
    have hbl := block_lt c0
    obtain ⟨b, off, sp⟩ := a
    simp only at hsp
    subst hsp
    refine ⟨b, off, rfl, hbl, fun j s hj => ?_⟩
    obtain ⟨hjl, hje⟩ := List.getElem?_eq_some_iff.1 hj
    rw [List.length_take] at hjl
    have cj := hc j (by omega)
    rw [add_plain] at cj
    rw [cj, ← hje, List.getElem_take, List.getD_eq_getElem?_getD, List.getElem?_eq_getElem (by omega)]
    rfl
end Go.Proofs.YtpcmiaablanmeaaGreatDoor
