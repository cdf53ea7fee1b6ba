/- What a []Flag that came in is; and what the world's shape says of the table. -/
import Derived.Test.YtpcmiaablanmeaaGreatDoorItoa
import Derived.Deep.Slices
import Derived.Deep.Fields
import Derived.ChangeSame
import Derived.ChangeMaps5
import Derived.SliceStrings
namespace Go.Proofs.YtpcmiaablanmeaaGreatDoor
open Go.ChangeShapes Go.WideShapes Go.Deep Go.RowKit

section
variable {H : Type} {enc : TypeId × Value → H} {P : Program} {w : World} {base : Nat} {spare : Nat → Bool} {held : Bool}
theorem open_slice_fields {t e : TypeId} {fs : Array Field} {fuel : Nat} {cs : List Value} {x : DataW H × List MemPlace} (ht : P.underlying t = some (.slice e)) (he : P.underlying e = some (.struct fs))
    (hone : oneCellFields P fs = true) (hC : P.cellsOf e = fs.size) (h : DataW.trod enc P w base spare held fuel t cs = some x) :
    (cs = [.slice none 0 0] ∧ x = (.nil, [])) ∨
    ∃ (a : Addr) (len cap m : Nat) (D : Nat → DataW H) (Pl : Nat → List MemPlace), cs = [.slice (some a) len cap] ∧ base ≤ a.block ∧ len ≤ cap ∧ cap ≤ maxLen ∧ m = (if spare a.block then cap else len) ∧
      x = (.slice ((List.range len).map D) ((List.range (m - len)).map fun j => D (len + j)), MemPlace.row a (m * fs.size) ++ (List.range m).flatMap Pl) ∧
      ∀ i, i < m → ∃ (ys : List (DataW H × List MemPlace)) (n : Nat), D i = .agg (ys.map (·.1)) ∧ Pl i = ys.flatMap (·.2) ∧ ys.length = fs.size ∧
        ∀ (j : Nat) (f : Field), fs[j]? = some f → ∃ (v : Value) (y : DataW H × List MemPlace), w.cell? (a.add (i * fs.size + j)) = some v ∧ ys[j]? = some y ∧ DataW.trod enc P w base spare held n f.type [v] = some y := by
  rcases open_slice ht h with h0 | ⟨a, len, cap, m, n, D, Pl, hcs, hb, hl, hm, hmm, hx, hi⟩
  · exact .inl h0
  · refine .inr ⟨a, len, cap, m, D, Pl, hcs, hb, hl, hm, hmm, by rw [hC] at hx; exact hx, fun i him => ?_⟩
    obtain ⟨cs', hc, ht'⟩ := hi i him
    rw [hC] at hc
    obtain ⟨ys, n', hn', hy, hlen, hyl, hf⟩ := DataW.trod_struct he ht'
    obtain ⟨_, hcl, hat⟩ := World.cells?_some hc
    simp only [Prod.mk.injEq] at hy
    refine ⟨ys, n', hy.1, hy.2, hyl, fun j f hj => ?_⟩
    obtain ⟨ho, hk⟩ := hone_of hone j f hj
    have hjl : j < fs.size := (Array.getElem?_eq_some_iff.1 hj).1
    have hcell := hat j hjl
    have hv : cs'[j]? = some (cs'[j]'(by omega)) := List.getElem?_eq_getElem (by omega)
    have h1 := hf j f hj
    rw [ho, hk] at h1
    have hone' : (cs'.drop j).take 1 = [cs'[j]'(by omega)] := by
      rw [List.drop_eq_getElem_cons (by omega)]
      rfl
    rw [hone'] at h1
    have hys : ys[j]? = some (ys[j]'(by omega)) := List.getElem?_eq_getElem (by omega)
    refine ⟨_, _, ?_, hys, h1.trans hys⟩
    rw [← Go.Deep.add_add, hcell, hv]
end

noncomputable def flagFields : Array Field := match Tryz.prog.underlying 36 with
  | some (.struct fs) => fs
  | _ => #[]
theorem flag_struct : Tryz.prog.underlying 36 = some (.struct flagFields) := by kernel_rfl
theorem flag_slice : Tryz.prog.underlying 22 = some (.slice 36) := by kernel_rfl
theorem flag_size : flagFields.size = 5 := by kernel_rfl
noncomputable def fieldAt (j : Nat) : Field := flagFields[j]?.getD default
theorem field_lt (j : Nat) (h : j < 5) : flagFields[j]? = some (fieldAt j) := by
  have := flag_size
  unfold fieldAt
  rw [Array.getElem?_eq_getElem (by omega)]
  rfl

instance : Inhabited FD := ⟨⟨⟨#[]⟩, 0, false, 0, ⟨#[]⟩⟩⟩

theorem i64_wf {n : Int} (h : (Lit.int .i64 n).wf = true) : -9223372036854775808 ≤ n ∧ n ≤ 9223372036854775807 := by
  unfold Lit.wf at h
  simpa [IntKind.min, IntKind.max, IntKind.bits, IntKind.signed] using h

theorem block_lt {w : World} {a : Addr} {v : Value} (h : w.cell? a = some v) : a.block < w.heap.size := by
  unfold World.cell? at h
  split at h
  · rename_i hb; exact (Array.getElem?_eq_some_iff.1 hb).1
  · cases h

theorem add_plain (b off k : Nat) : (⟨b, off, none⟩ : Addr).add k = ⟨b, off + k, none⟩ := by
  unfold Addr.add
  split <;> simp_all

/-- A []Flag that came in, as data. -/
theorem open_flags {H : Type} {enc : TypeId × Value → H} {w : World} {base : Nat} {spare : Nat → Bool} {held : Bool} {A : Option Addr} {len cap : Nat} {d : DataW H} {p : List MemPlace}
    (h : DataW.Trod enc Tryz.prog w base spare held 22 (.slice A len cap) d p) :
    ∃ fs : List FD, fs.length = len ∧ len ≤ cap ∧ cap ≤ 9223372036854775807 ∧ FlagsIn w w.heap.size A fs ∧ ∀ f ∈ fs, f.Ok := by
  obtain ⟨fuel, hf⟩ := h
  rcases open_slice_fields flag_slice flag_struct (by kernel_rfl) (by kernel_rfl) hf with ⟨hcs, _⟩ | ⟨a, l, c, m, D, Pl, hcs, _, hl, hm, hmm, _, hi⟩
  · simp [Value.cells] at hcs
    obtain ⟨rfl, rfl, rfl⟩ := hcs
    exact ⟨[], rfl, Nat.le_refl _, by omega, fun i h => absurd h (Nat.not_lt_zero i), fun f h => absurd h List.not_mem_nil⟩
  · simp [Value.cells] at hcs
    obtain ⟨rfl, rfl, rfl⟩ := hcs
    have hlm : len ≤ m := by rw [hmm]; split <;> omega
    have hM : maxLen = 9223372036854775807 := rfl
    have key : ∀ i, i < len → ∃ f : FD, f.Ok ∧ ∀ j v, f.val[j]? = some v → w.cell? (a.add (i * 5 + j)) = some v := by
      intro i hil
      obtain ⟨ys, n, _, _, _, hj⟩ := hi i (by omega)
      rw [flag_size] at hj
      obtain ⟨v0, y0, c0, _, t0⟩ := hj 0 _ (field_lt 0 (by omega))
      obtain ⟨v1, y1, c1, _, t1⟩ := hj 1 _ (field_lt 1 (by omega))
      obtain ⟨v2, y2, c2, _, t2⟩ := hj 2 _ (field_lt 2 (by omega))
      obtain ⟨v3, y3, c3, _, t3⟩ := hj 3 _ (field_lt 3 (by omega))
      obtain ⟨v4, y4, c4, _, t4⟩ := hj 4 _ (field_lt 4 (by omega))
      obtain ⟨s0, e0, _, z0⟩ := DataW.trod_string (by kernel_rfl) t0
      obtain ⟨s1, e1, _, z1⟩ := DataW.trod_int (k := .i64) (by kernel_rfl) t1
      obtain ⟨s2, e2, _⟩ := DataW.trod_bool (by kernel_rfl) t2
      obtain ⟨s3, e3, _, z3⟩ := DataW.trod_int (k := .i64) (by kernel_rfl) t3
      obtain ⟨s4, e4, _, z4⟩ := DataW.trod_string (by kernel_rfl) t4
      simp only [List.cons.injEq, and_true] at e0 e1 e2 e3 e4
      subst e0 e1 e2 e3 e4
      refine ⟨⟨s0, s1, s2, s3, s4⟩, ⟨by simpa [hM] using z0, by simpa [hM] using z4, (i64_wf z1).1, (i64_wf z1).2, (i64_wf z3).1, (i64_wf z3).2⟩, ?_⟩
      intro j v hv
      simp only [FD.val] at hv
      match j, hv with
      | 0, hv => simp at hv; subst hv; exact c0
      | 1, hv => simp at hv; subst hv; exact c1
      | 2, hv => simp at hv; subst hv; exact c2
      | 3, hv => simp at hv; subst hv; exact c3
      | 4, hv => simp at hv; subst hv; exact c4
      | j + 5, hv => simp at hv
    have hch : ∃ F : Nat → FD, ∀ i, i < len → (F i).Ok ∧ ∀ j v, (F i).val[j]? = some v → w.cell? (a.add (i * 5 + j)) = some v := choose_lt key
    obtain ⟨F, hF⟩ := hch
    refine ⟨(List.range len).map F, by simp, hl, by omega, ?_, ?_⟩
    · intro i hil
      rw [List.length_map, List.length_range] at hil
      have c0 : w.cell? a = some (.string (F 0).name) := by simpa [Addr.add] using (hF 0 (by omega)).2 0 (.string (F 0).name) rfl
      have hsp := World.cell?_spot c0
      have hbl := block_lt c0
      obtain ⟨b, off, sp⟩ := a
      simp only at hsp
      subst hsp
      refine ⟨b, off, rfl, hbl, ?_⟩
      intro k f hk
      have hkl : k < len := by
        have := (List.getElem?_eq_some_iff.1 hk).1
        simpa using this
      have hfk : f = F k := by
        rw [List.getElem?_map, List.getElem?_range hkl] at hk
        simpa using hk.symm
      subst hfk
      have g := (hF k hkl).2
      refine ⟨?_, ?_, ?_, ?_, ?_⟩
      · have := g 0 (.string (F k).name) rfl; rw [add_plain, ← Nat.add_assoc] at this; exact this
      · have := g 1 (.int .i64 (F k).kind) rfl; rw [add_plain, ← Nat.add_assoc] at this; exact this
      · have := g 2 (.bool (F k).on) rfl; rw [add_plain, ← Nat.add_assoc] at this; exact this
      · have := g 3 (.int .i64 (F k).num) rfl; rw [add_plain, ← Nat.add_assoc] at this; exact this
      · have := g 4 (.string (F k).text) rfl; rw [add_plain, ← Nat.add_assoc] at this; exact this
    · intro f hf
      obtain ⟨i, hi', rfl⟩ := List.mem_map.1 hf
      exact (hF i (List.mem_range.1 hi')).1

set_option maxRecDepth 10000 in
theorem tab_ok {w : World} (h : w.ShapedOpen Tryz.prog) : TabOk w := by
  have h0 : ((begin Tryz.prog (fun _ _ => 0) default).world.heap[5]?).bind Obj.row? = some (Array.replicate 20 (.int .u64 0), 204) := by kernel_rfl
  obtain ⟨cs, hh, hs, hr⟩ := h.1 5 _ _ (of_decide_eq_true (by kernel_rfl)) h0
  obtain ⟨ts, hts, _, hall⟩ := hr (by kernel_rfl)
  have hts' : Tryz.prog.cellTypes Tryz.prog.depth 204 = some (List.replicate 20 137) := by kernel_rfl
  rw [hts'] at hts
  cases hts
  have hs' : cs.size = 20 := hs.trans Array.size_replicate
  intro q hq
  obtain ⟨u, hu, hok⟩ := hall q cs[q] (by simp [hs', hq])
  have hu' : u = 137 := by
    have := List.mem_of_getElem? hu
    exact List.eq_of_mem_replicate this
  subst hu'
  have hcell : w.cell? ⟨5, q, none⟩ = some cs[q] := by simp [World.cell?, hh, hs', hq]
  rw [hcell]
  have hut : Tryz.prog.underlying 137 = some (.int .u64) := by kernel_rfl
  unfold Cell.ok at hok
  rw [hut] at hok
  cases hv : cs[q] <;> rw [hv] at hok <;> simp at hok
  case int k' n => exact ⟨n, by rw [hok.1]⟩
end Go.Proofs.YtpcmiaablanmeaaGreatDoor
