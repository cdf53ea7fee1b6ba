/- sortFlags: the flags of a map, in the order of their names. -/
import Derived.Test.YtpcmiaablanmeaaGreatDoorSortF
import Derived.Laws.MakeOwn
namespace Go.Proofs.YtpcmiaablanmeaaGreatDoor
open Go.RowKit Go.Lib Go.Sort Go.Maps

theorem mapD_tidy : ∀ kps : List (ByteArray × Nat), Tidy (mapD kps)
  | [] => tidy_empty
  | (_, _) :: r => (mapD_tidy r).put (by unfold keyLit; trivial) _
theorem mapD_size : ∀ kps : List (ByteArray × Nat), (kps.map (·.1)).Nodup → Maps.size (mapD kps) = kps.length
  | [], _ => rfl
  | (s, b) :: r, h => by
    rw [List.map_cons, List.nodup_cons] at h
    unfold mapD
    rw [size_put (mapD_tidy r), mapD_has, mapD_size r h.2, if_neg]
    · rfl
    · intro hh
      rw [List.any_eq_true] at hh
      obtain ⟨p, hp, hps⟩ := hh
      exact h.1 (by rw [← of_decide_eq_true hps]; exact List.mem_map_of_mem (f := (·.1)) hp)

theorem keyOf_str_inv {P : Program} {k : TypeId} (hk : P.underlying k = some .string) {key : Value} {kl : Lit} (h : keyOf P k key = some kl) : ∃ s, key = .string s ∧ kl = keyLit s := by
  cases key <;> simp [keyOf, hk, mapKey] at h
  exact ⟨_, rfl, h.2.symm⟩

theorem ptrElem_shape {v : Value} {y : DataW Unit × List MemPlace} (h : ptrElem v = some y) : ∃ c : Option Addr, v = .pointer c := by
  unfold ptrElem at h
  split at h
  · exact ⟨_, rfl⟩
  · exact ⟨_, rfl⟩
  · cases h

/-- What an entry that has come is. -/
theorem entry_is {kps : List (ByteArray × Nat)} {x : ByteArray} {c : Option Addr} {kl : Lit} {y : DataW Unit × List MemPlace} (hk : keyOf Tryz.prog 9 (.string x) = some kl) (hy : ptrElem (.pointer c) = some y) (hat : ∀ zd, (mapD kps).atKey kl zd = y.1) :
    kl = keyLit x ∧ ∃ p ∈ kps, p.1 = x ∧ c = some ⟨p.2, 0, none⟩ := by
  obtain ⟨s, hs, rfl⟩ := keyOf_str_inv Tryz.underlying9 hk
  cases hs
  refine ⟨rfl, ?_⟩
  have hh := has_true_of_atKey hat
  rw [mapD_has] at hh
  cases hf : kps.find? (fun p => decide (p.1 = x)) with
  | none =>
    rw [List.any_eq_true] at hh
    obtain ⟨p, hp, hps⟩ := hh
    exact absurd hps (by simpa using List.find?_eq_none.1 hf p hp)
  | some p =>
    have hat0 := hat .nil
    rw [mapD_at, hf] at hat0
    refine ⟨p, List.mem_of_find?_eq_some hf, by simpa using List.find?_some hf, ?_⟩
    obtain ⟨y1, y2⟩ := y
    simp only at hat0
    subst hat0
    have := ptrElem_inv hy
    injection this

/-- What has been laid into the row, and what is still to come. -/
structure Laid (kps done : List (ByteArray × Nat)) (left : Lit → Bool) (cs : Array Value) : Prop where
  nodup : (done.map (·.1)).Nodup
  sub : ∀ p ∈ done, p ∈ kps
  out : ∀ p ∈ kps, left (keyLit p.1) = false → p ∈ done
  gone : ∀ p ∈ done, left (keyLit p.1) = false
  size : cs.size = kps.length
  at_ : ∀ (j : Nat) (p : ByteArray × Nat), done[j]? = some p → cs[j]? = some (Value.pointer (some ⟨p.2, 0, none⟩))

theorem nodup_of_map {done : List (ByteArray × Nat)} (h : (done.map (·.1)).Nodup) : done.Nodup := by
  rw [List.nodup_iff_pairwise_ne, List.pairwise_map] at h
  exact h.imp fun {a b} hab e => hab (by rw [e])

theorem Laid.start (kps : List (ByteArray × Nat)) (cs : Array Value) (hs : cs.size = kps.length) : Laid kps [] (Maps.has (mapD kps)) cs where
  nodup := List.nodup_nil
  sub p h := by simp at h
  out p h hl := by
    rw [mapD_has, List.any_eq_false] at hl
    exact absurd (hl p h) (by simp)
  gone p h := by simp at h
  size := hs
  at_ j p h := by simp at h

theorem Laid.fresh {kps done : List (ByteArray × Nat)} {left : Lit → Bool} {cs : Array Value} (h : Laid kps done left cs) {p : ByteArray × Nat} (hp : p ∈ kps) (hl : left (keyLit p.1) = true) : done.length < kps.length := by
  have hn : p ∉ done := fun hd => by rw [h.gone p hd] at hl; cases hl
  have := List.Nodup.length_le_of_subset (l₁ := p :: done) (l₂ := kps) (List.nodup_cons.2 ⟨hn, nodup_of_map h.nodup⟩) (fun q hq => by
    rcases List.mem_cons.1 hq with rfl | hq
    · exact hp
    · exact h.sub q hq)
  rw [List.length_cons] at this
  omega

theorem Laid.step {kps done : List (ByteArray × Nat)} {left : Lit → Bool} {cs : Array Value} (h : Laid kps done left cs) {p : ByteArray × Nat} (hd : (kps.map (·.1)).Nodup) (hp : p ∈ kps) (hl : left (keyLit p.1) = true) :
    Laid kps (done ++ [p]) (fun z => left z && !z.sameKey (keyLit p.1)) (cs.setIfInBounds done.length (.pointer (some ⟨p.2, 0, none⟩))) := by
  have hlt := h.fresh hp hl
  have hkey : ∀ q ∈ kps, q.1 = p.1 → q = p := fun q hq e => by
    rw [List.nodup_iff_pairwise_ne, List.pairwise_map, List.pairwise_iff_getElem] at hd
    rcases List.mem_iff_getElem.1 hp with ⟨i, hi, hpi⟩
    rcases List.mem_iff_getElem.1 hq with ⟨j, hj, hqj⟩
    rcases Nat.lt_trichotomy i j with h | h | h
    · exact absurd (by rw [hpi, hqj, e]) (hd i j hi hj h)
    · subst h; exact hqj.symm.trans hpi
    · exact absurd (by rw [hpi, hqj, e]) (hd j i hj hi h)
  have hnk : p.1 ∉ done.map (·.1) := fun hm => by
    obtain ⟨q, hq, e⟩ := List.mem_map.1 hm
    have := hkey q (h.sub q hq) e
    subst this
    rw [h.gone q hq] at hl; cases hl
  refine ⟨?_, ?_, ?_, ?_, by rw [Array.size_setIfInBounds]; exact h.size, ?_⟩
  · rw [List.map_append, List.map_cons, List.map_nil, List.nodup_append]
    exact ⟨h.nodup, by simp, fun a ha b hb => by simp at hb; subst hb; exact fun e => hnk (e ▸ ha)⟩
  · intro q hq
    rcases List.mem_append.1 hq with hq | hq
    · exact h.sub q hq
    · simp at hq; subst hq; exact hp
  · intro q hq hl'
    by_cases e : q.1 = p.1
    · rw [hkey q hq e]; simp
    · have hs : (keyLit q.1).sameKey (keyLit p.1) = false := sameKey_ne (fun h => e (keyLit_inj h))
      rw [hs] at hl'
      exact List.mem_append_left _ (h.out q hq (by simpa using hl'))
  · intro q hq
    rcases List.mem_append.1 hq with hq | hq
    · simp [h.gone q hq]
    · simp at hq; subst hq
      have : (keyLit q.1).sameKey (keyLit q.1) = true := by unfold keyLit Lit.sameKey; simp
      simp [this]
  · intro j q hj
    rw [Array.getElem?_setIfInBounds]
    by_cases e : done.length = j
    · subst e
      rw [List.getElem?_append_right (Nat.le_refl _)] at hj
      simp at hj
      subst hj
      simp [h.size, hlt]
    · rw [if_neg e]
      rcases Nat.lt_or_ge j done.length with hjl | hjl
      · rw [List.getElem?_append_left hjl] at hj; exact h.at_ j q hj
      · rw [List.getElem?_append_right hjl, List.getElem?_cons] at hj
        split at hj
        · omega
        · simp at hj

theorem Laid.all {kps done : List (ByteArray × Nat)} {left : Lit → Bool} {cs : Array Value} (h : Laid kps done left cs) (hd : (kps.map (·.1)).Nodup) (hl : ∀ kl, left kl = false) : done.Perm kps :=
  (List.perm_ext_iff_of_nodup (nodup_of_map h.nodup) (nodup_of_map hd)).2 fun p => ⟨h.sub p, fun hp => h.out p hp (hl _)⟩

/-- What sortFlags hands back: the pointers of the map, in the order of the names. -/
def FlagsPost (kps : List (ByteArray × Nat)) (w : World) (e : Ending) (w' : World) : Prop :=
  ∃ A c, ∃ ks : List (ByteArray × Nat), e = .returned (.slice A ks.length c) ∧ ks.Perm kps ∧ ByName ks ∧ (∀ (j : Nat) (p : ByteArray × Nat), ks[j]? = some p → ∃ b, A = some ⟨b, 0, none⟩ ∧ w.heap.size ≤ b ∧ w'.cell? ⟨b, j, none⟩ = some (.pointer (some ⟨p.2, 0, none⟩))) ∧ Off (fun _ => False) w w'

theorem grown_of_off1 {w w' : World} {b : Nat} (h : Off (fun i => i = b) w w') : w.grownBy w' (some b) := ⟨h.os, h.tape, h.output, h.size, fun i hi hn => h.block i hi (fun e => hn (by rw [e]))⟩

theorem flags_close {w wr w' : World} {kps ks : List (ByteArray × Nat)} (hp : ks.Perm kps) (hby : ByName ks) (hc : ∀ (j : Nat) (p : ByteArray × Nat), ks[j]? = some p → w'.cell? ⟨w.heap.size, j, none⟩ = some (.pointer (some ⟨p.2, 0, none⟩))) (ho : Off (fun i => i = w.heap.size) wr w') (hw : Off (fun _ => False) w wr) :
    FlagsPost kps w (.returned (.slice (some ⟨w.heap.size, 0, none⟩) kps.length kps.length)) w' :=
  ⟨_, _, ks, by rw [hp.length_eq], hp, hby, fun j p h => ⟨_, rfl, Nat.le_refl _, hc j p h⟩, hw.trans ho (fun i hi e => by omega)⟩

set_option maxHeartbeats 1000000 in
set_option maxRecDepth 100000 in
theorem sortFlags_map (mb : Nat) (kps : List (ByteArray × Nat)) (w : World) (hown : w.ownsMap Tryz.prog 9 ptrElem mb kps.length (mapD kps)) (hd : (kps.map (·.1)).Nodup) (hk : kps.length < 2000) (hname : ∀ p ∈ kps, w.cell? ⟨p.2, 0, none⟩ = some (.string p.1)) :
    Calls Tryz.prog 64 #[.map (some mb)] w (FlagsPost kps w) := by
  obtain ⟨i0, hi0, hz00, hz01, hz02⟩ := info_parts (show (Tryz.prog.info? 90).map (fun i => (i.zero, i.size, i.bytes)) = some (some (.pointer none), 1, 8) by kernel_rfl)
  have hmk : ∀ W : World, (Instr.makeSlice 118 (.int .i64 (kps.length : Int)) (.int .i64 (kps.length : Int))).run Tryz.prog W = .ok (.slice (some ⟨W.heap.size, 0, none⟩) kps.length kps.length) (W.alloc (.cells (madeCells (Value.pointer none).cells (kps.length * 1)) 90)) := fun W => by
    have hr := run_make (P := Tryz.prog) W 118 90 i0 (.pointer none) Tryz.underlying118 hi0 hz00 .i64 .i64 kps.length kps.length (by omega) (by omega) (by rw [hz02]; omega) (by omega)
    rw [hz01] at hr
    simpa using hr
  have Hname := hide hname
  clear hi0 hz00 hz01 hz02 hname
  go_enter Tryz.func64, Tryz.ntmps64
  go_wp2_with (first
    | (at_len; refine wpList_len_own _ rfl _ _ rfl _ _ Tryz.underlying79 _ mb _ _ rfl hown ?_; rw [mapD_size kps hd])
    | (at_range; refine wpList_range_own _ rfl _ _ rfl _ _ Tryz.keyed Tryz.underlying79 _ mb _ _ rfl (hown.alloc _) ?_; intro w0 hrg0 hg0 hs0)
    | go_in)
  go_frame
  have e1 : (w.alloc (.cells (madeCells #[Value.pointer none] kps.length) 90)).heap.size = w.heap.size + 1 := by simp
  rw [e1] at hrg0 hs0 ⊢
  have hX0 : Blk w0 w.heap.size 90 (madeCells #[Value.pointer none] kps.length) := (Blk.new w _ _).grown hg0 (by simp)
  have hms : (madeCells #[Value.pointer none] kps.length).size = kps.length := by simp [madeCells]
  have hO0 : Off (fun _ => False) w w0 := ((Off.refl _ w).alloc _).trans (off_of_grown hg0 (S := fun _ => False) (fun i _ h => by cases h)) (fun _ _ h => h)
  clear hg0 hs0 hmk e1
  go_loopw [4, 6] (fun i _ wr => ∃ (left : Lit → Bool) (cnt : Nat) (done : List (ByteArray × Nat)) (cs : Array Value), i = .int .i64 done.length ∧ wr.ranges Tryz.prog 9 ptrElem mb (w.heap.size + 1) kps.length (mapD kps) left cnt ∧ Laid kps done left cs ∧ Blk wr w.heap.size 90 cs ∧ Off (fun _ => False) w wr) (fun _ _ wr => wr.rangeLeft mb (w.heap.size + 1))
  case atStart => exact ⟨_, _, [], _, rfl, hrg0, Laid.start kps _ hms, hX0, hO0⟩
  case round =>
    obtain ⟨left, cnt, done, cs, rfl, hrg, hL, hX, hO⟩ := hrel
    have hXlt := hX.lt
    go_wp2_with (first
      | (at_next; refine wpList_next_ranges _ rfl _ rfl 9 Tryz.keyed ptrElem Value.string Value.pointer (fun key kl h => (keyOf_str_inv Tryz.underlying9 h).imp fun _ h => h.1) (fun v y h => ptrElem_shape h) mb (w.heap.size + 1) kps.length _ left cnt rfl hrg ?_ ?_)
      | go_in)
    · intro hc0 hl0
      have hS : Hid (Calls Tryz.prog 86 #[.slice (some ⟨w.heap.size, 0, none⟩) kps.length kps.length, .func (.func 87) #[] #[]] wr (SortPost kps w.heap.size wr)) :=
        hide (sortCall kps done hd hk (hL.all hd hl0) w.heap.size kps.length wr hXlt (fun j p h => ⟨(hX.cell j).trans (hL.at_ j p h), hX.frozen j⟩) (fun p hp => by
          have h1 := Hname.out p hp
          have h2 : p.2 < w.heap.size := by
            unfold World.cell? at h1
            split at h1
            · rename_i hb; exact (Array.getElem?_eq_some_iff.1 hb).1
            · cases h1
          exact ⟨by omega, (hO.cell (p := ⟨p.2, 0, none⟩) h2 (fun h => h)).trans h1⟩))
      have HO := hide hO
      clear hrg hL hX hO hl0 hc0 hrg0 hX0 hO0 hms
      go_wp2_with (first | (go_at_call 86; refine hS.out.mono ?_; rintro e w3 ⟨rfl, ks, hp, hby, hc, ho⟩) | go_in)
      go_ret
      exact flags_close hp hby hc ho HO.out
    · intro x c kl y1 y2 w1 cnt1 hkey hlx hy hat hrg1 hlt hg1 hs1 hen
      obtain ⟨rfl, p, hp, rfl, rfl⟩ := entry_is (y := (y1, y2)) hkey hy hat
      have hdl := hL.fresh hp hlx
      have hX1 := hX.grown hg1 (by simp)
      have hcs : cs.size = kps.length := hL.size
      obtain ⟨v1, hc1⟩ : ∃ v, w1.cell? ⟨w.heap.size, done.length, none⟩ = some v := ⟨_, (hX1.cell _).trans (Array.getElem?_eq_getElem (by omega))⟩
      have hf1 := hX1.frozen done.length
      have hL1 := hide (hL.step hd hp hlx)
      have hrl := hide hrg.left_eq
      have hX2 := hide (hX1.set_ done.length (.pointer (some ⟨p.2, 0, none⟩)))
      have hO2 := hide (hO.trans (off_of_grown hg1 (S := fun i => w.heap.size ≤ i) (fun i hi h => by cases h; omega)) (fun i hi h => by omega))
      have hset : Off (fun i => i = w.heap.size) w1 (w1.setCell ⟨w.heap.size, done.length, none⟩ (.pointer (some ⟨p.2, 0, none⟩))) := (Off.refl (fun i => i = w.heap.size) w1).setCell (p := ⟨w.heap.size, done.length, none⟩) (fun _ => rfl) _
      have hrg2 := hide (hrg1.kept (grown_of_off1 hset) (fun e => owns_ne hrg1.owns hX1 (Option.some.inj e).symm) (fun e => by have h := Option.some.inj e; omega))
      have hO3 := hide (hO2.out.trans hset (fun i hi e => by omega))
      clear hset hO2
      clear hL hX hO hrg0 hX0 hO0 hms hat hkey hy
      go_wp2_with fail
      go_roundw
      case rel => exact ⟨_, _, _, _, by simp, hrg2.out, hL1.out, hX2.out, hO3.out⟩
      case measure => rw [hrg2.out.left_eq, hrl.out]; exact hlt

set_option maxRecDepth 100000 in
/-- A nil map: none. -/
theorem sortFlags_nil (w : World) : Calls Tryz.prog 64 #[.map none] w (FlagsPost [] w) := by
  obtain ⟨i0, hi0, hz00, hz01, hz02⟩ := info_parts (show (Tryz.prog.info? 90).map (fun i => (i.zero, i.size, i.bytes)) = some (some (.pointer none), 1, 8) by kernel_rfl)
  have hmk : ∀ W : World, (Instr.makeSlice 118 (.int .i64 0) (.int .i64 0)).run Tryz.prog W = .ok (.slice (some ⟨W.heap.size, 0, none⟩) 0 0) (W.alloc (.cells (madeCells #[Value.pointer none] 0) 90)) := fun W => by
    have hr := run_make (P := Tryz.prog) W 118 90 i0 (.pointer none) Tryz.underlying118 hi0 hz00 .i64 .i64 0 0 (by omega) (by omega) (by rw [hz02]; omega) (by omega)
    rw [hz01] at hr
    exact hr
  generalize (Obj.cells (madeCells #[Value.pointer none] 0) 90) = o at hmk
  have hrg := run_range_nilMap (P := Tryz.prog) (w.alloc o) 79 9 90 Tryz.underlying79
  have hnx : ∀ ty, (Instr.next (.pointer (some ⟨(w.alloc o).heap.size, 0, none⟩)) false ty).run Tryz.prog ((w.alloc o).alloc (.mapIter none 0 #[] 0)) = _ := fun ty => run_next_nilMap _ ty 0 0 #[]
  have e1 : (w.alloc o).heap.size = w.heap.size + 1 := by simp
  have hb : w.heap.size < ((w.alloc o).alloc (.mapIter none 0 #[] 0)).heap.size := by simp; omega
  have hS : Hid (Calls Tryz.prog 86 #[.slice (some ⟨w.heap.size, 0, none⟩) 0 0, .func (.func 87) #[] #[]] ((w.alloc o).alloc (.mapIter none 0 #[] 0)) (SortPost [] w.heap.size ((w.alloc o).alloc (.mapIter none 0 #[] 0)))) :=
    hide (sortCall [] [] List.nodup_nil (by simp) (List.Perm.refl _) w.heap.size 0 _ hb (fun j p h => by simp at h) (fun p h => by simp at h))
  rw [e1] at hrg hnx
  clear hi0 hz00 hz01 hz02
  go_enter Tryz.func64, Tryz.ntmps64
  go_wp2
  refine wp_loop_rounds 1 ?_
  rw [rounds_succ]
  go_wp2_with (first | (go_at_call 86; refine hS.out.mono ?_; rintro e w3 ⟨rfl, ks, hp, hby, hc, ho⟩) | go_in)
  go_ret
  exact flags_close hp hby hc ho (((Off.refl _ w).alloc _).alloc _)

/-- A map, nil or not. -/
theorem sortFlags_any (mv : Value) (kps : List (ByteArray × Nat)) (w : World) (hm : MapIs w mv kps) (hd : (kps.map (·.1)).Nodup) (hk : kps.length < 2000) (hname : ∀ p ∈ kps, w.cell? ⟨p.2, 0, none⟩ = some (.string p.1)) :
    Calls Tryz.prog 64 #[mv] w (FlagsPost kps w) := by
  rcases hm with ⟨rfl, rfl⟩ | ⟨mb, rfl, hown⟩
  · exact sortFlags_nil w
  · exact sortFlags_map mb kps w hown hd hk hname
end Go.Proofs.YtpcmiaablanmeaaGreatDoor
