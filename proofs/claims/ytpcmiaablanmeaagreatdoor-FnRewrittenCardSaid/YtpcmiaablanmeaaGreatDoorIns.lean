/- slices.BinarySearch and slices.Insert on a list of texts that a call has made. -/
import Derived.Test.YtpcmiaablanmeaaGreatDoorMem
import Derived.Test.YtpcmiaablanmeaaGreatDoorSetW
import Derived.Test.YtpcmiaablanmeaaGreatDoorShelf
import Derived.Laws.MakeOwn
namespace Go.Proofs.YtpcmiaablanmeaaGreatDoor
open Go.RowKit Go.Lib

/-- Values laid over a row from a place on. -/
def putL : Array Value → Nat → List Value → Array Value
  | cs, _, [] => cs
  | cs, o, v :: r => putL (cs.setIfInBounds o v) (o + 1) r

theorem putL_size : ∀ (vs : List Value) (cs : Array Value) (o : Nat), (putL cs o vs).size = cs.size
  | [], _, _ => rfl
  | v :: r, cs, o => by unfold putL; rw [putL_size r]; simp
theorem putL_at : ∀ (vs : List Value) (cs : Array Value) (o j : Nat), o + vs.length ≤ cs.size → (putL cs o vs)[j]? = if o ≤ j ∧ j < o + vs.length then vs[j - o]? else cs[j]?
  | [], cs, o, j, _ => by
    unfold putL
    rw [if_neg (by simp)]
  | v :: r, cs, o, j, h => by
    have h' : o + 1 + r.length ≤ cs.size := by simp at h; omega
    unfold putL
    rw [putL_at r _ (o + 1) j (by simpa using h'), List.length_cons]
    by_cases h1 : o + 1 ≤ j ∧ j < o + 1 + r.length
    · rw [if_pos h1, if_pos (by omega)]
      obtain ⟨d, hd⟩ : ∃ d, j - o = d + 1 := ⟨j - o - 1, by omega⟩
      rw [hd, List.getElem?_cons_succ, show j - (o + 1) = d by omega]
    · rw [if_neg h1, Array.getElem?_setIfInBounds]
      by_cases h2 : o = j
      · subst h2
        rw [if_pos rfl, if_pos (by omega), if_pos (by omega), Nat.sub_self]
        rfl
      · rw [if_neg h2, if_neg (by omega)]

theorem Blk.setCells_ {g : Nat} {t : TypeId} : ∀ (vs : List Value) {w : World} {cs : Array Value} (o : Nat), Blk w g t cs → Blk (w.setCells g o vs) g t (putL cs o vs)
  | [], _, _, _, h => h
  | v :: r, _, _, o, h => Blk.setCells_ r (o + 1) (h.set_ o v)
theorem Blk.setCells_far {g b : Nat} {t : TypeId} (hne : g ≠ b) : ∀ (vs : List Value) {w : World} {cs : Array Value} (o : Nat), Blk w g t cs → Blk (w.setCells b o vs) g t cs
  | [], _, _, _, h => h
  | v :: r, _, _, o, h => Blk.setCells_far hne r (o + 1) (h.far (p := ⟨b, o, none⟩) hne v)
theorem Off.setCells {S : Nat → Prop} {w : World} {b : Nat} : ∀ (vs : List Value) {w' : World} (o : Nat), Off S w w' → (b < w.heap.size → S b) → Off S w (w'.setCells b o vs)
  | [], _, _, h, _ => h
  | v :: r, _, o, h, hb => Off.setCells r (o + 1) (h.setCell (p := ⟨b, o, none⟩) hb v) hb

theorem Blk.cell' {w : World} {g : Nat} {t : TypeId} {cs : Array Value} (h : Blk w g t cs) {i : Nat} : w.cell? ⟨g, 0 + i, none⟩ = cs[i]? := by rw [Nat.zero_add]; exact h.cell i
theorem Blk.frozen' {w : World} {g : Nat} {t : TypeId} {cs : Array Value} (h : Blk w g t cs) (i : Nat) : w.frozen? ⟨g, i, none⟩ = false := h.frozen i
theorem Blk.shape {w : World} {g : Nat} {t : TypeId} {cs : Array Value} (h : Blk w g t cs) : w.shape? g = some (t, cs.size) := by
  unfold Blk at h
  unfold World.shape?
  rw [h]

/-- The row with x put in at place k. -/
theorem take_ins {xs : List Value} {k : Nat} {x : Value} (hk : k ≤ xs.length) {cs : Array Value} (hlo : ∀ j, j < k → cs[j]? = xs[j]?) (hx : cs[k]? = some x) (hhi : ∀ j, k ≤ j → j < xs.length → cs[j + 1]? = xs[j]?) (hsz : xs.length + 1 ≤ cs.size) :
    cs.toList.take (xs.length + 1) = xs.take k ++ x :: xs.drop k := by
  apply List.ext_getElem?
  intro j
  by_cases hj : j < xs.length + 1
  · rw [List.getElem?_take_of_lt hj, Array.getElem?_toList]
    by_cases h1 : j < k
    · rw [hlo j h1, List.getElem?_append_left (by simp; omega), List.getElem?_take_of_lt h1]
    · rw [List.getElem?_append_right (by simp; omega), List.length_take, Nat.min_eq_left hk]
      by_cases h2 : j = k
      · subst h2
        rw [hx, Nat.sub_self]
        rfl
      · obtain ⟨d, rfl⟩ : ∃ d, j = k + d + 1 := ⟨j - k - 1, by omega⟩
        rw [hhi (k + d) (by omega) (by omega), show k + d + 1 - k = d + 1 by omega, List.getElem?_cons_succ, List.getElem?_drop]
  · rw [List.getElem?_eq_none (by simp; omega), List.getElem?_eq_none (by simp; omega)]

theorem take_at {cur : Array Value} {xs : List Value} {n j : Nat} (ht : cur.toList.take n = xs) (hj : j < n) : cur[j]? = xs[j]? := by
  rw [← ht, List.getElem?_take_of_lt hj, Array.getElem?_toList]

theorem row_cells {w : World} {g : Nat} {e : TypeId} {cur : Array Value} {xs : List Value} (hb : Blk w g e cur) (ht : cur.toList.take xs.length = xs) : ∀ j v, xs[j]? = some v → w.cell? ⟨g, 0 + j, none⟩ = some v := fun j v hj => by
  rw [Nat.zero_add, hb.cell, ← Array.getElem?_toList]
  have hl : j < xs.length := (List.getElem?_eq_some_iff.1 hj).1
  rw [Array.getElem?_toList, take_at ht hl, hj]

theorem addr_add0 (g j : Nat) : (⟨g, 0, none⟩ : Addr).add j = ⟨g, j, none⟩ := by
  unfold Addr.add
  split <;> simp_all

theorem cells_one : (Value.string ⟨#[]⟩).cells.size = 1 := rfl

set_option maxHeartbeats 1000000 in
theorem insert_own (sn : Value) (ss : List ByteArray) (k : Nat) (x : ByteArray) (vb B : Nat) (w : World) (hown : w.ownsRow B 9 1 sn ss.length (ss.map Value.string)) (hv : Blk w vb 9 #[.string x]) (hvn : ∀ i, sn.ownBlock = some i → i ≠ vb) (hB : B ≤ w.heap.size) (hk : k ≤ ss.length) (hn : ss.length ≤ 2000) :
    Calls Tryz.prog 56 #[sn, .int .i64 k, .slice (some ⟨vb, 0, none⟩) 1 1] w fun e w' => ∃ sn', e = .returned sn' ∧ w'.ownsRow B 9 1 sn' (ss.length + 1) ((ss.take k ++ x :: ss.drop k).map Value.string) ∧ Off (fun j => sn.ownBlock = some j) w w' ∧ (∃ g c, sn' = .slice (some ⟨g, 0, none⟩) (ss.length + 1) c) := by
  have hvs : ∀ j v, [Value.string x][j]? = some v → w.cell? ⟨vb, 0 + j, none⟩ = some v := fun j v hj => by
    rw [Nat.zero_add, hv.cell]
    rw [← hj]
    simp
  have h1v : ∀ v ∈ [Value.string x], v.oneCell' = true := fun v hv => by simp at hv; subst hv; rfl
  have hmap : (ss.take k ++ x :: ss.drop k).map Value.string = (ss.map Value.string).take k ++ .string x :: (ss.map Value.string).drop k := by
    rw [List.map_append, List.map_cons, List.map_take, List.map_drop]
  have hml : (ss.map Value.string).length = ss.length := List.length_map _
  have hM : maxLen = 9223372036854775807 := rfl
  have ht9 : Tryz.insL_ren.t 9 = 9 := rfl
  rw [hmap]
  generalize hxs : ss.map Value.string = xs at *
  have hone : ∀ v ∈ xs, v.oneCell' = true := fun v hv => by
    rw [← hxs] at hv
    obtain ⟨s, _, rfl⟩ := List.mem_map.1 hv
    rfl
  have hlen1 : (xs.take k ++ .string x :: xs.drop k).length = (ss.length + 1) * 1 := by
    rw [List.length_append, List.length_cons, List.length_take, List.length_drop]; omega
  have fin : ∀ (w' : World) (g cap : Nat) (cs : Array Value), Blk w' g 9 cs → B ≤ g → ss.length + 1 ≤ cap → cap ≤ maxLen → cs.size = cap → (∀ j, j < k → cs[j]? = xs[j]?) → cs[k]? = some (.string x) → (∀ j, k ≤ j → j < xs.length → cs[j + 1]? = xs[j]?) →
      w'.ownsRow B 9 1 (.slice (some ⟨g, 0, none⟩) (ss.length + 1) cap) (ss.length + 1) (xs.take k ++ .string x :: xs.drop k) := fun w' g cap cs hb hg h1 h2 hs hlo hx hhi =>
    ⟨hlen1, .inr ⟨g, cap, cs, rfl, hg, hb, h1, h2, by omega, by rw [Nat.mul_one, ← hml]; exact take_ins (by omega) hlo hx hhi (by omega)⟩⟩
  rcases hown.2 with ⟨rfl, h0⟩ | ⟨g, cap, cur, rfl, hg, hb, hnc, hcm, hcs, htk⟩
  · obtain rfl : k = 0 := by omega
    have hx0 : xs = [] := List.eq_nil_of_length_eq_zero (by omega)
    have hS := Any2.slices_Insert_string_end_grow Tryz.insL none 0 0 vb 0 1 1 [] [.string x] w (by omega) (by omega) (by omega) (by omega) rfl rfl (fun _ => rfl) (fun a ha => by cases ha) hvs h1v
    rw [ht9] at hS
    refine Calls.mono hS ?_
    rintro e w' ⟨rfl, rfl⟩
    have hss : ss = [] := List.eq_nil_of_length_eq_zero h0
    subst hss
    refine ⟨_, rfl, ?_, ((Off.refl _ w).drew).alloc _, ⟨_, _, rfl⟩⟩
    have hge := grownCap_ge w (0 + 1) 0 9
    have hle := grownCap_le_maxLen w (0 + 1) 0 9 (by omega)
    refine fin _ w.heap.size (grownCap w (0 + 1) 0 9) _ (Blk.new w.drew 9 _) hB hge hle ?_ (fun j hj => absurd hj (by omega)) ?_ (fun j _ hj => absurd hj (by rw [hx0]; simp))
    · rw [Array.size_append, size_zeroCells, cells_one, List.size_toArray, List.length_append, List.length_nil, List.length_singleton]
      omega
    · rw [Array.getElem?_append_left (by simp)]; simp
  · have hb : Blk w g 9 cur := hb
    have hxs' : cur.toList.take xs.length = xs := by rw [hml, ← Nat.mul_one ss.length]; exact htk
    have hrow := row_cells hb hxs'
    have hcur : ∀ j, j < xs.length → cur[j]? = xs[j]? := fun j hj => by
      exact take_at hxs' hj
    have hgv : vb ≠ g := fun e => hvn g rfl e.symm
    have hcs' : cur.size = cap := by omega
    have hoff : ∀ w', Off (fun j => j = g) w w' → Off (fun j => (Value.slice (some ⟨g, 0, none⟩) ss.length cap).ownBlock = some j) w w' := fun w' h => h.weaken (fun i _ e => by rw [e]; rfl)
    by_cases hroom : ss.length + 1 ≤ cap
    · have hcell : ∀ j, j < cap → (w.cell? ⟨g, 0 + j, none⟩).isSome = true := fun j hj => by
        rw [hb.cell', Array.getElem?_eq_getElem (by omega)]
        rfl
      by_cases hkn : k = ss.length
      · subst hkn
        have hS := Any2.slices_Insert_string_end_room Tryz.insL g 0 ss.length cap vb 0 1 1 [.string x] w (by omega) hroom (by omega) rfl (fun j hj => by rw [Nat.add_assoc]; exact hcell _ (by omega)) (fun j hj => hb.frozen' _) hvs h1v
        refine Calls.mono hS ?_
        rintro e w' ⟨rfl, rfl⟩
        refine ⟨_, rfl, ?_, hoff _ ((Off.refl (fun j => j = g) w).setCells _ _ (fun _ => rfl)), ⟨_, _, rfl⟩⟩
        have hB1 := hb.setCells_ [.string x] (0 + ss.length)
        have hat : ∀ j, (putL cur (0 + ss.length) [.string x])[j]? = if 0 + ss.length ≤ j ∧ j < 0 + ss.length + 1 then [Value.string x][j - (0 + ss.length)]? else cur[j]? := fun j => putL_at _ _ _ _ (by simp; omega)
        exact fin _ g cap _ hB1 hg hroom hcm (by rw [putL_size]; exact hcs') (fun j hj => by rw [hat, if_neg (by omega)]; exact hcur j (by omega)) (by rw [hat, if_pos (by omega)]; simp) (fun j h1 h2 => by omega)
      · have hS := Any2.slices_Insert_string_shift Tryz.insL g 0 ss.length cap k vb 0 1 1 xs [.string x] w (by omega) (by omega) hroom (by omega) hgv hml rfl hrow (fun j hj => hcell j (by omega)) (fun j hj => hb.frozen' _) hvs hone h1v 9 9 1 cap hv.shape (by rw [hb.shape, hcs']) (by omega) (hv.frozen 0) (hv.frozen 1)
        refine Calls.mono hS ?_
        rintro e w' ⟨rfl, rfl⟩
        refine ⟨_, rfl, ?_, hoff _ ((((Off.refl (fun j => j = g) w).drew).setCells _ _ (fun _ => rfl)).setCells _ _ (fun _ => rfl)), ⟨_, _, rfl⟩⟩
        have hB1 := (hb.drew.setCells_ (xs.drop k) (0 + (k + 1))).setCells_ [.string x] (0 + k)
        have hdl : (xs.drop k).length = ss.length - k := by rw [List.length_drop]; omega
        have hat1 : ∀ j, (putL cur (0 + (k + 1)) (xs.drop k))[j]? = if 0 + (k + 1) ≤ j ∧ j < 0 + (k + 1) + (xs.drop k).length then (xs.drop k)[j - (0 + (k + 1))]? else cur[j]? := fun j => putL_at _ _ _ _ (by omega)
        have hat : ∀ j, (putL (putL cur (0 + (k + 1)) (xs.drop k)) (0 + k) [.string x])[j]? = if 0 + k ≤ j ∧ j < 0 + k + 1 then [Value.string x][j - (0 + k)]? else (putL cur (0 + (k + 1)) (xs.drop k))[j]? := fun j => putL_at _ _ _ _ (by rw [putL_size]; simp; omega)
        exact fin _ g cap _ hB1 hg hroom hcm (by rw [putL_size, putL_size]; exact hcs') (fun j hj => by rw [hat, if_neg (by omega), hat1, if_neg (by omega)]; exact hcur j (by omega)) (by rw [hat, if_pos (by omega)]; simp) (fun j h1 h2 => by
          rw [hat, if_neg (by omega), hat1, if_pos (by omega), List.getElem?_drop, show k + (j + 1 - (0 + (k + 1))) = j by omega])
    · have hge := grownCap_ge w (ss.length + 1) cap 9
      have hle := grownCap_le_maxLen w (ss.length + 1) cap 9 (by omega)
      have hx1 : xs.toArray.size = ss.length := by rw [List.size_toArray]; exact hml
      by_cases hkn : k = ss.length
      · subst hkn
        have hS := Any2.slices_Insert_string_end_grow Tryz.insL (some ⟨g, 0, none⟩) ss.length cap vb 0 1 1 xs [.string x] w (by omega) hnc (by omega) (by omega) hml rfl (fun h => by cases h) (fun a ha j v hj => by cases ha; have := hrow j v hj; rw [Nat.zero_add] at this; rw [addr_add0]; exact this) hvs h1v
        rw [ht9] at hS
        refine Calls.mono hS ?_
        rintro e w' ⟨rfl, rfl⟩
        refine ⟨_, rfl, ?_, ((Off.refl _ w).drew).alloc _, ⟨_, _, rfl⟩⟩
        exact fin _ w.heap.size _ _ (Blk.new w.drew 9 _) hB hge hle (by
          rw [Array.size_append, size_zeroCells, cells_one, List.size_toArray, List.length_append, List.length_singleton]
          omega) (fun j hj => by rw [Array.getElem?_append_left (by simp; omega)]; simp; rw [List.getElem?_append_left (by omega)]) (by rw [Array.getElem?_append_left (by simp; omega)]; simp; rw [List.getElem?_append_right (by omega), hml, Nat.sub_self]; rfl) (fun j h1 h2 => by omega)
      · have hS := Any2.slices_Insert_string_grow Tryz.insL g 0 ss.length cap k vb 0 1 1 xs [.string x] w (by omega) (by omega) hnc (by omega) (by omega) hml rfl hrow hvs hone h1v
        rw [ht9] at hS
        refine Calls.mono hS ?_
        rintro e w' ⟨rfl, rfl⟩
        refine ⟨_, rfl, ?_, ?_, ⟨_, _, rfl⟩⟩
        · have hZ : ((xs.take k).toArray ++ Builtin.zeroCells (Value.string ⟨#[]⟩).cells (ss.length + 1 - k) ++ Builtin.zeroCells (Value.string ⟨#[]⟩).cells (grownCap w (ss.length + 1) cap 9 - (ss.length + 1))).size = grownCap w (ss.length + 1) cap 9 := by
            rw [Array.size_append, Array.size_append, size_zeroCells, size_zeroCells, cells_one, List.size_toArray, List.length_take]
            omega
          have hlo : ∀ j, j < k → ((xs.take k).toArray ++ Builtin.zeroCells (Value.string ⟨#[]⟩).cells (ss.length + 1 - k) ++ Builtin.zeroCells (Value.string ⟨#[]⟩).cells (grownCap w (ss.length + 1) cap 9 - (ss.length + 1)))[j]? = xs[j]? := fun j hj => by
            rw [Array.getElem?_append_left (by rw [Array.size_append, List.size_toArray, List.length_take]; omega), Array.getElem?_append_left (by rw [List.size_toArray, List.length_take]; omega), List.getElem?_toArray, List.getElem?_take_of_lt hj]
          generalize (xs.take k).toArray ++ Builtin.zeroCells (Value.string ⟨#[]⟩).cells (ss.length + 1 - k) ++ Builtin.zeroCells (Value.string ⟨#[]⟩).cells (grownCap w (ss.length + 1) cap 9 - (ss.length + 1)) = Z at *
          have hB1 := (((Blk.new w 9 Z).drew.setCells_ [.string x] k).drew.setCells_ (xs.drop k) (k + 1))
          have hdl : (xs.drop k).length = ss.length - k := by rw [List.length_drop]; omega
          have hat1 : ∀ j, (putL Z k [Value.string x])[j]? = if k ≤ j ∧ j < k + 1 then [Value.string x][j - k]? else Z[j]? := fun j => putL_at _ _ _ _ (by simp; omega)
          have hat : ∀ j, (putL (putL Z k [Value.string x]) (k + 1) (xs.drop k))[j]? = if k + 1 ≤ j ∧ j < k + 1 + (xs.drop k).length then (xs.drop k)[j - (k + 1)]? else (putL Z k [Value.string x])[j]? := fun j => putL_at _ _ _ _ (by rw [putL_size]; omega)
          exact fin _ w.heap.size _ _ hB1 hB hge hle (by rw [putL_size, putL_size]; exact hZ) (fun j hj => by rw [hat, if_neg (by omega), hat1, if_neg (by omega)]; exact hlo j hj) (by rw [hat, if_neg (by omega), hat1, if_pos (by omega)]; simp) (fun j h1 h2 => by
            rw [hat, if_pos (by omega), List.getElem?_drop, show k + (j + 1 - (k + 1)) = j by omega])
        · exact hoff _ ((((((Off.refl (fun j => j = g) w).alloc _).drew).setCells _ _ (fun h => absurd h (by omega))).drew).setCells _ _ (fun h => absurd h (by omega)))
end Go.Proofs.YtpcmiaablanmeaaGreatDoor
