/- slices.Clone of flags; spec.Read.wrong. -/
import Derived.Test.YtpcmiaablanmeaaGreatDoorReads
import Derived.Deep.RegionWith
namespace Go.Proofs.YtpcmiaablanmeaaGreatDoor
open Go.RowKit Go.Lib

theorem Tryz.infoFlag : (Tryz.prog.info? 36).map (fun i => (i.zero, i.size, i.bytes)) = some (some (.agg #[.string ⟨#[]⟩, .int .i64 0, .bool false, .int .i64 0, .string ⟨#[]⟩]), 5, 56) := by kernel_rfl

theorem flat_at (fs : List FD) : ∀ i f, fs[i]? = some f → ∀ j v, f.val[j]? = some v → (fs.flatMap fun f => f.val.toList)[i * 5 + j]? = some v := by
  induction fs with
  | nil => intro i f h; simp at h
  | cons a r ih =>
    intro i f hf j v hv
    have hsz : ∀ g : FD, g.val.toList.length = 5 := fun _ => rfl
    have hj : j < 5 := by
      have h1 : f.val.toList[j]? = some v := by rw [Array.getElem?_toList]; exact hv
      have := (List.getElem?_eq_some_iff.1 h1).1
      rwa [hsz] at this
    rw [List.flatMap_cons]
    cases i with
    | zero =>
      simp only [List.getElem?_cons_zero, Option.some.injEq] at hf
      subst hf
      rw [List.getElem?_append_left (by rw [hsz]; omega), Nat.zero_mul, Nat.zero_add, Array.getElem?_toList]
      exact hv
    | succ i =>
      rw [List.getElem?_cons_succ] at hf
      rw [List.getElem?_append_right (by rw [hsz]; omega), hsz, show (i + 1) * 5 + j - 5 = i * 5 + j by omega]
      exact ih i f hf j v hv
theorem flat_len (fs : List FD) : (fs.flatMap fun f => f.val.toList).length = fs.length * 5 := by
  induction fs with
  | nil => rfl
  | cons a r ih =>
    rw [List.flatMap_cons, List.length_append, ih, List.length_cons]
    have : a.val.toList.length = 5 := rfl
    omega

theorem flat_val (fs : List FD) (i : Nat) (f : FD) (hf : fs[i]? = some f) (m : Nat) (hm : m < 5) : (fs.flatMap fun f => f.val.toList)[i * 5 + m]? = f.val[m]? := by
  have h : f.val[m]? = some (f.val[m]'hm) := Array.getElem?_eq_getElem hm
  rw [h]
  exact flat_at fs i f hf m _ h
theorem addr_plus (b off k : Nat) : (⟨b, off, none⟩ : Addr).add k = ⟨b, off + k, none⟩ := by
  unfold Addr.add
  split <;> simp_all
theorem addr_block (a : Addr) (k : Nat) : (a.add k).block = a.block := by
  unfold Addr.add
  split <;> rfl
theorem off_cell {S : Nat → Prop} {w w' : World} {p : Addr} (h : Off S w w') (hp : p.block < w.heap.size) (hn : ¬ S p.block) : w'.cell? p = w.cell? p := by
  unfold World.cell?
  rw [h.block p.block hp hn]

theorem cell_alloc_old (w : World) (o : Obj) (a : Addr) (h : a.block < w.heap.size) : (w.alloc o).cell? a = w.cell? a :=
  off_cell ((Off.refl (fun _ => False) w).alloc o) h (fun h => h)

def ClonePost (fs : List FD) (w : World) (e : Ending) (w' : World) : Prop := ∃ fl, e = .returned fl ∧ FlagsSt w' w.heap.size fl fs ∧ Below w.heap.size w w'

set_option maxHeartbeats 1000000 in
set_option maxRecDepth 100000 in
theorem clone_any (A : Option Addr) (c : Nat) (fs : List FD) (w : World) (hl : fs.length ≤ 100) (hlc : fs.length ≤ c) (hin : FlagsIn w w.heap.size A fs) (hnil : A = none → c = 0) :
    Calls Tryz.prog 36 #[.slice A fs.length c] w (ClonePost fs w) := by
  obtain ⟨i0, hi0, hz00, hz01, hz02⟩ := info_parts Tryz.infoFlag
  have eN : ∀ W, (binOp .eql 22 (.slice none 0 0) (.slice none 0 0)).run Tryz.prog W = .ok (.bool true) W := fun W => by kernel_rfl
  have eS : ∀ a n m W, (binOp .eql 22 (.slice (some a) n m) (.slice none 0 0)).run Tryz.prog W = .ok (.bool false) W := fun a n m W => by kernel_rfl
  rcases A with _ | a
  · have h0 : fs = [] := by
      rcases fs with _ | ⟨f, r⟩
      · rfl
      · obtain ⟨b, off, hA, _⟩ := hin 0 (by simp)
        cases hA
    subst h0
    go_enter Tryz.func36, Tryz.ntmps36
    go_wp2
    go_ret
    exact ⟨_, rfl, .inl ⟨rfl, rfl⟩, Below.refl _ _⟩
  · go_enter Tryz.func36, Tryz.ntmps36
    have hnews : ∀ j u, (fs.flatMap fun f => f.val.toList)[j]? = some u → w.cell? (a.add j) = some u := fun j u hj => by
      have hjl := (List.getElem?_eq_some_iff.1 hj).1
      rw [flat_len] at hjl
      have hi : j / 5 < fs.length := by omega
      obtain ⟨b, off, hA, _, hc⟩ := hin (j / 5) hi
      cases hA
      have hv := flat_val fs (j / 5) _ (List.getElem?_eq_getElem hi) (j % 5) (by omega)
      rw [show j / 5 * 5 + j % 5 = j by omega] at hv
      obtain ⟨h0, h1, h2, h3, h4⟩ := hc (j / 5) _ (List.getElem?_eq_getElem hi)
      have ha : (⟨b, off, none⟩ : Addr).add j = ⟨b, off + j / 5 * 5 + j % 5, none⟩ := by
        rw [addr_plus]; congr 1; omega
      rw [ha, ← hj, hv]
      have hm : j % 5 < 5 := Nat.mod_lt _ (by omega)
      generalize j % 5 = m at hm
      match m, hm with
      | 0, _ => exact h0
      | 1, _ => exact h1
      | 2, _ => exact h2
      | 3, _ => exact h3
      | 4, _ => exact h4
    have h1 : ∀ u ∈ (fs.flatMap fun f => f.val.toList), u.oneCell' = true := fun u hu => by
      obtain ⟨f, _, hf⟩ := List.mem_flatMap.1 hu
      simp only [FD.val, List.mem_cons, List.not_mem_nil, or_false] at hf
      rcases hf with rfl | rfl | rfl | rfl | rfl <;> rfl
    have hown : (w.alloc (.cells #[] 36)).ownsRow w.heap.size 36 5 (.slice (some ⟨w.heap.size, 0, none⟩) 0 0) 0 [] := ⟨rfl, .inr ⟨w.heap.size, 0, #[], rfl, Nat.le_refl _, heap_alloc_new w _, Nat.le_refl _, Nat.zero_le _, rfl, rfl⟩⟩
    have hnl : ∀ u : Nat, u < fs.length → a.block < w.heap.size := fun u hu => by obtain ⟨b, off, hA, hlt, _⟩ := hin u hu; cases hA; exact hlt
    clear hin
    go_wp2_with (first
      | (at_builtin; refine wpList_append_own _ rfl _ _ 22 rfl w.heap.size 36 i0 _ 5 56 Tryz.underlying22 hi0 hz00 hz01 hz02 rfl (by decide) _ 0 [] rfl hown a fs.length c _ rfl (flat_len fs) (fun j u hj => by
          have hj5 := (List.getElem?_eq_some_iff.1 hj).1
          rw [flat_len] at hj5
          rw [cell_alloc_old w _ (a.add j) (by rw [addr_block]; exact hnl 0 (by omega))]
          exact hnews j u hj) h1 (by unfold maxLen; omega) (by omega) (by simp) ?_; intro v' w1 hown1 hgr hni)
      | go_in)
    go_ret
    have hb1 := ((Below.refl w.heap.size w).alloc (Nat.le_refl _) (.cells #[] 36)).grown hgr (by simp) (fun j hj => by exact Nat.le_of_eq (by simpa [Value.ownBlock, Act.eval] using hj))
    refine ⟨v', rfl, ?_, hb1⟩
    rw [Nat.zero_add, List.nil_append] at hown1
    rcases hown1.2 with ⟨rfl, h0⟩ | ⟨g, cap, cur, rfl, hg, hb, hn, hcap, hcs, htk⟩
    · exact .inl ⟨rfl, List.eq_nil_of_length_eq_zero h0⟩
    · refine .inr ⟨g, cap, cur, rfl, hg, hb, fun i f hf j v hv => ?_, hn⟩
      have hj := flat_at fs i f hf j v hv
      rw [← htk, List.getElem?_take] at hj
      split at hj
      · rw [Array.getElem?_toList] at hj; exact hj
      · cases hj

theorem readCells_state (fl sn rs : Value) (st bad : Int) (said ended : Bool) (st' bad' : Int) : ((readCells fl sn rs st bad said ended).setIfInBounds 3 (.int .i64 st')).setIfInBounds 4 (.int .i64 bad') = readCells fl sn rs st' bad' said ended := rfl

theorem heap_alloc_new' (w : World) (o : Obj) {n : Nat} (h : n = w.heap.size) : (w.alloc o).heap[n]? = some o := by rw [h]; exact heap_alloc_new w o

set_option maxRecDepth 100000 in
theorem wrong_any (rb : Nat) (a1 a2 a3 : Option Addr) (n1 n2 n3 m1 m2 m3 : Nat) (st bad : Int) (said ended : Bool) (st' bad' : Int) (w : World) (hb : Blk w rb 40 (readCells (.slice a1 n1 m1) (.slice a2 n2 m2) (.slice a3 n3 m3) st bad said ended)) :
    Calls Tryz.prog 37 #[.pointer (some ⟨rb, 0, none⟩), .int .i64 st', .int .i64 bad'] w fun e w' => e = .returned (.agg (readCells (.slice a1 n1 m1) (.slice a2 n2 m2) (.slice a3 n3 m3) st' bad' said ended)) ∧ Off (fun j => j = rb) w w' := by
  have hlt := hb.lt
  have c0 : w.cell? ⟨rb, 0, none⟩ = some (.slice a1 n1 m1) := hb.cell 0
  have c1 : w.cell? ⟨rb, 1, none⟩ = some (.slice a2 n2 m2) := hb.cell 1
  have c2 : w.cell? ⟨rb, 2, none⟩ = some (.slice a3 n3 m3) := hb.cell 2
  have c3 : w.cell? ⟨rb, 3, none⟩ = some (.int .i64 st) := hb.cell 3
  have c4 : w.cell? ⟨rb, 4, none⟩ = some (.int .i64 bad) := hb.cell 4
  have c5 : w.cell? ⟨rb, 5, none⟩ = some (.bool said) := hb.cell 5
  have c6 : w.cell? ⟨rb, 6, none⟩ = some (.bool ended) := hb.cell 6
  have z3 := hb.frozen 3
  have z4 := hb.frozen 4
  clear hb
  go_enter Tryz.func37, Tryz.ntmps37
  go_wp2
  (try simp only [Exit.inBlock, Exit.then])
  refine bodyPost_ret (results_cell_row rfl _ _ w.heap.size 40 (readCells (.slice a1 n1 m1) (.slice a2 n2 m2) (.slice a3 n3 m3) st' bad' said ended) (0, 0) _ rfl (heap_alloc_new' _ _ (by simp [World.setCell])) Tryz.underlying40 rfl (by kernel_rfl)) rfl ?_
  exact ⟨rfl, (((Off.refl (fun j => j = rb) w).setCell (p := ⟨rb, 3, none⟩) (fun _ => rfl) _).setCell (p := ⟨rb, 4, none⟩) (fun _ => rfl) _).alloc _⟩
end Go.Proofs.YtpcmiaablanmeaaGreatDoor
