/- impl.Known tells whether a flag has a name; the law FnExactKnown's walk. -/
import Derived.Test.YtpcmiaablanmeaaDef
import Derived.Test.YtpcmiaablanmeaaFits
namespace Go.Proofs.Ytpcmiaablanmeaa
open Go.RowKit Go.Maps

theorem ptrOf_cases (es : List Ent) (name : ByteArray) : (∃ e ∈ es, e.f.name = name ∧ ptrOf (kpsOf es) name = .pointer (some ⟨e.p, 0, none⟩)) ∨ ((∀ e ∈ es, e.f.name ≠ name) ∧ ptrOf (kpsOf es) name = .pointer none) := by
  unfold ptrOf
  cases h : (kpsOf es).find? (fun p => decide (p.1 = name)) with
  | none =>
    refine .inr ⟨fun e he hn => ?_, rfl⟩
    rw [List.find?_eq_none] at h
    exact h (e.f.name, e.p) (by simp only [kpsOf, List.mem_map, List.mem_reverse]; exact ⟨e, he, rfl⟩) (by simpa using hn)
  | some p =>
    have h1 := List.mem_of_find?_eq_some h
    have h2 := List.find?_some h
    simp only [kpsOf, List.mem_map, List.mem_reverse] at h1
    obtain ⟨e, he, rfl⟩ := h1
    exact .inl ⟨e, he, by simpa using h2, rfl⟩

theorem findOf_nonneg (fs : List FD) (name : ByteArray) : 0 ≤ findOf fs name ↔ ∃ f ∈ fs, f.name = name := by
  unfold findOf
  cases h : fs.findIdx? (fun f => decide (f.name = name)) with
  | none =>
    rw [List.findIdx?_eq_none_iff] at h
    simp
    intro f hf hn
    have := h f hf
    simp [hn] at this
  | some i =>
    rw [List.findIdx?_eq_some_iff_getElem] at h
    obtain ⟨hi, hn, _⟩ := h
    simp
    exact ⟨fs[i], List.getElem_mem hi, by simpa using hn⟩

set_option maxHeartbeats 1000000 in
theorem known_any (A : Option Addr) (c : Nat) (fs : List FD) (name : ByteArray) (w : World) (hn : name.size ≤ maxLen) (hin : FlagsIn w w.heap.size A fs) (hok : ∀ f ∈ fs, f.Ok) (hD : DefinedP fs) (ht : TabOk w) :
    Calls Try.prog 7 #[.slice A fs.length c, .string name] w fun e w' => e = .returned (.bool (decide (0 ≤ findOf fs name))) ∧ Below w.heap.size w w' := by
  have HDef := hide (define_any A c fs w hin hok hD ht)
  clear hin hok hD ht
  go_enter Try.func7, Try.ntmps7
  go_wp2_with fail
  refine HDef.out.mono ?_
  rintro e w1 ⟨sb, fb, es, mv, vb, vn, vt, rfl, hes, hS, hb⟩
  have HS := hide hS
  have Hb := hide hb
  have Hes := hide hes
  clear hS hb hes
  have s0 : w1.cell? ⟨sb, 0, none⟩ = some (.pointer (some ⟨fb, 0, none⟩)) := HS.out.set.cell 0
  have f4 : w1.cell? ⟨fb, 4, none⟩ = some mv := HS.out.fset.cell 4
  have hl := HS.out.map.look name hn
  rcases ptrOf_cases es name with ⟨e, he, hen, hp⟩ | ⟨hno, hp⟩
  · rw [hp] at hl
    have p0 : w1.cell? ⟨e.p, 0, none⟩ = some (.string e.f.name) := (HS.out.flags e he).cell 0
    rw [hen] at p0
    have hf : decide (0 ≤ findOf fs name) = true := decide_eq_true ((findOf_nonneg _ _).2 ⟨e.f, by rw [← Hes.out]; exact List.mem_map_of_mem he, hen⟩)
    have HF := hide hf
    clear he hen hp hf
    go_wp2
    go_ret
    exact ⟨ret_bool (by rw [HF.out]), Hb.out⟩
  · rw [hp] at hl
    have hf : decide (0 ≤ findOf fs name) = false := decide_eq_false (fun h => by
      obtain ⟨f, hf, hfn⟩ := (findOf_nonneg _ _).1 h
      rw [← Hes.out] at hf
      obtain ⟨e, he, rfl⟩ := List.mem_map.1 hf
      exact hno e he hfn)
    have HF := hide hf
    clear hno hp hf
    go_wp2
    go_ret
    exact ⟨ret_bool (by rw [HF.out]), Hb.out⟩

/-- The law's walk: true, and nothing that was there has turned. -/
def LawPost (w : World) (e : Ending) (w' : World) : Prop := e = .returned (.bool true) ∧ Below w.heap.size w w'

set_option maxHeartbeats 1000000 in
theorem law_known (A : Option Addr) (c : Nat) (fs : List FD) (name : ByteArray) (w : World) (hn : name.size ≤ 9223372036854775807) (hl : fs.length ≤ 9223372036854775807) (hlc : fs.length ≤ c) (hin : FlagsIn w w.heap.size A fs) (hok : ∀ f ∈ fs, f.Ok) (ht : TabOk w) :
    Calls Try.prog 3 #[.slice A fs.length c, .string name] w (LawPost w) := by
  have Hin := hide hin
  have Hok := hide hok
  have Ht := hide ht
  clear hin hok ht
  by_cases hf1 : fits1 fs = true
  · by_cases hf2 : (2147483647 : Int) < (name.size : Int)
    · have d2 : decide ((2147483647 : Int) < (name.size : Int)) = true := by simpa using hf2
      go_enter Try.func3, Try.ntmps3
      go_wp2_with (go_at_call 5; refine (zzFits1_any A c fs _ hl Hin.out Hok.out).mono ?_; rintro e w1 ⟨rfl, hb1⟩)
      go_ret
      exact ⟨rfl, by assumption⟩
    · have d2 : decide ((2147483647 : Int) < (name.size : Int)) = false := by simpa using hf2
      go_enter Try.func3, Try.ntmps3
      go_wp2_with (go_at_call 5; refine (zzFits1_any A c fs _ hl Hin.out Hok.out).mono ?_; rintro e w1 ⟨rfl, hb1⟩)
      have hin1 := hide ((Hin.out.below hb1).more hb1.size)
      refine (defined_any A c fs w1 hl hlc hin1.out Hok.out).mono ?_
      rintro e w2 ⟨b, rfl, hD, hb2⟩
      have HD := hide hD
      have hb12 := hide (below_call hb1 hb1.size hb2)
      have hin2 := hide ((Hin.out.below hb12.out).more hb12.out.size)
      have ht2 := hide (Ht.out.below hb12.out Ht.out.lt)
      clear hD hb1 hb2
      cases b with
      | false =>
        go_wp2_with fail
        go_ret
        exact ⟨rfl, hb12.out⟩
      | true =>
        have hDf := hide (HD.out rfl)
        clear HD
        go_wp2_with (first
          | (go_at_call 7; refine (known_any A c fs name _ hn hin2.out Hok.out hDf.out ht2.out).mono ?_; rintro e w3 ⟨rfl, hb3⟩; have hb13 := hide (below_call hb12.out hb12.out.size hb3); have hin3 := hide ((Hin.out.below hb13.out).more hb13.out.size); clear hb3)
          | (go_at_call 8; refine (find_any A c fs name _ hl hin3.out).mono ?_; rintro e w4 ⟨rfl, hb4⟩; have hb14 := hide (below_call hb13.out hb13.out.size hb4); clear hb4))
        go_ret
        exact ⟨ret_bool (by simp), hb14.out⟩
  · have hf1' : fits1 fs = false := by simpa using hf1
    clear hf1
    go_enter Try.func3, Try.ntmps3
    go_wp2_with (go_at_call 5; refine (zzFits1_any A c fs _ hl Hin.out Hok.out).mono ?_; rintro e w1 ⟨rfl, hb1⟩)
    go_ret
    exact ⟨rfl, by assumption⟩
end Go.Proofs.Ytpcmiaablanmeaa
