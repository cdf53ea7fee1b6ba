/- impl.set.answer behind arguments that were read: a contract. -/
import Derived.Test.YtpcmiaablanmeaaGreatDoorArgsA
import Derived.Test.YtpcmiaablanmeaaGreatDoorVisit
import Derived.Test.YtpcmiaablanmeaaGreatDoorRlaws
import Derived.Test.YtpcmiaablanmeaaGreatDoorClone
namespace Go.Proofs.YtpcmiaablanmeaaGreatDoor
open Go.RowKit Go.Maps

/-- Texts in order. -/
def InOrder (ns : List ByteArray) : Prop := ns.Pairwise fun s t => s.data.toList ≤ t.data.toList
theorem inOrder_eq {ms ns : List ByteArray} (h : ms.Perm ns) (h1 : InOrder ms) (h2 : InOrder ns) : ms = ns :=
  List.Perm.eq_of_pairwise (le := fun s t : ByteArray => s.data.toList ≤ t.data.toList) (fun _ _ _ _ h1 h2 => data_inj (List.le_antisymm h1 h2)) h1 h2 h

def ansCells (fl sn rs : Value) (st : Int) : Array Value := #[fl, sn, rs, .int .i64 st]

/-- A row of flags that a call has made, as append's laws have it. -/
def flatV (fs : List FD) : List Value := fs.flatMap fun f => f.val.toList

/-- The answer: the flags, the names that were set in order, the other arguments, no error. -/
def AnsPost (cur : List FD) (ss rest : List ByteArray) (w : World) (e : Ending) (w' : World) : Prop :=
  ∃ (fa : Option Addr) (fc : Nat) (na : Option Addr) (nc : Nat) (ra : Option Addr) (rc : Nat) (ns : List ByteArray), e = .returned (.agg (ansCells (.slice fa cur.length fc) (.slice na ns.length nc) (.slice ra rest.length rc) 0)) ∧ ns.Perm ss ∧ InOrder ns ∧
    w'.ownsRow w.heap.size 36 5 (.slice fa cur.length fc) cur.length (flatV cur) ∧ w'.ownsRow w.heap.size 9 1 (.slice na ns.length nc) ns.length (ns.map Value.string) ∧ w'.ownsRow w.heap.size 9 1 (.slice ra rest.length rc) rest.length (rest.map Value.string) ∧ Below w.heap.size w w'

theorem args_any {w : World} {fb : Nat} {u : Value} {parsed : Bool} {act mv sl : Value} (h : Blk w fb 82 (fsCells u parsed act mv sl)) :
    Calls Tryz.prog 51 #[.pointer (some ⟨fb, 0, none⟩)] w fun e w' => e = .returned sl ∧ w = w' := by
  have f5 : w.cell? ⟨fb, 5, none⟩ = some sl := h.cell 5
  clear h
  go_enter Tryz.func51, Tryz.ntmps51
  go_wp2
  go_ret
  exact ⟨rfl, rfl⟩

/-- The loop's relation. -/
structure ARel (cur : List FD) (w wr : World) (k : Nat) (fl : Value) : Prop where
  out : Blk wr (w.heap.size + 1) 31 (ansCells fl (.slice none 0 0) (.slice none 0 0) 0)
  res : Blk wr w.heap.size 31 (ansCells (.slice none 0 0) (.slice none 0 0) (.slice none 0 0) 0)
  row : wr.ownsRow (w.heap.size + 2) 36 5 fl k (flatV (cur.take k))
  size : w.heap.size + 2 ≤ wr.heap.size
  below : Below w.heap.size w wr

theorem flatV_snoc {cur : List FD} {k : Nat} {g : FD} (h : cur[k]? = some g) : flatV (cur.take (k + 1)) = flatV (cur.take k) ++ g.val.toList := by
  unfold flatV
  rw [List.take_add_one, h]
  simp [List.flatMap_append]

theorem ARel.box {cur : List FD} {w wr : World} {k : Nat} {fl : Value} (h : ARel cur w wr k fl) (o : Obj) : ARel cur w (wr.alloc o) k fl :=
  ⟨h.out.alloc o, h.res.alloc o, h.row.alloc o, by have := h.size; simp; omega, h.below.alloc (by have := h.size; omega) o⟩
theorem ARel.set {cur : List FD} {w wr : World} {k : Nat} {fl : Value} (h : ARel cur w wr k fl) {xb : Nat} {cs : Array Value} (hx : Blk wr xb 36 cs) (hr : fl.ownBlock ≠ some xb) (hb : w.heap.size + 2 ≤ xb) (i : Nat) (v : Value) : ARel cur w (wr.setCell ⟨xb, i, none⟩ v) k fl :=
  ⟨h.out.far (p := ⟨xb, i, none⟩) (h.out.ne_ hx (by decide)) v, h.res.far (p := ⟨xb, i, none⟩) (h.res.ne_ hx (by decide)) v,
    h.row.kept (grown_of_off1 ((Off.refl (fun j => j = xb) wr).setCell (p := ⟨xb, i, none⟩) (fun _ => rfl) v)) (.inr hr), by have := h.size; simpa [World.setCell] using this, h.below.setCell (p := ⟨xb, i, none⟩) (by simp; omega) v⟩

theorem only_val {f g : FD} (h : Only f g) : (f.kind = 0 → g.val = f.val.setIfInBounds 2 (.bool g.on)) ∧ (f.kind = 1 → g.val = f.val.setIfInBounds 3 (.int .i64 g.num)) ∧ (f.kind ≠ 0 → f.kind ≠ 1 → g.val = f.val.setIfInBounds 4 (.string g.text)) := by
  refine ⟨fun hk => ?_, fun hk => ?_, fun h0 h1 => ?_⟩
  · unfold FD.val
    rw [h.name, h.kind, h.num (by omega), h.text (.inl hk)]
    rfl
  · unfold FD.val
    rw [h.name, h.kind, h.on (by omega), h.text (.inr hk)]
    rfl
  · unfold FD.val
    rw [h.name, h.kind, h.on h0, h.num h1]
    rfl

theorem own_blkN {w : World} {B : Nat} {e : TypeId} {sz : Nat} {v : Value} {n : Nat} {xs : List Value} (h : w.ownsRow B e sz v n xs) {i : Nat} (hi : v.ownBlock = some i) : B ≤ i ∧ ∃ cs, Blk w i e cs := by
  rcases h.2 with ⟨rfl, _⟩ | ⟨g, cap, cur, rfl, hb, hg, _⟩
  · simp [Value.ownBlock] at hi
  · have : g = i := by simpa [Value.ownBlock] using hi
    subst this
    exact ⟨hb, cur, hg⟩
theorem own_shapeN {w : World} {B : Nat} {e : TypeId} {sz : Nat} {v : Value} {n : Nat} {xs : List Value} (h : w.ownsRow B e sz v n xs) (hn : 0 < n) : ∃ g cap, v = .slice (some ⟨g, 0, none⟩) n cap := by
  rcases h.2 with ⟨_, rfl⟩ | ⟨g, cap, cur, rfl, _⟩
  · omega
  · exact ⟨g, cap, rfl⟩
theorem own_lenN {w : World} {B : Nat} {e : TypeId} {sz : Nat} {v : Value} {n : Nat} {xs : List Value} (h : w.ownsRow B e sz v n xs) : ∃ a c, v = .slice a n c := by
  rcases h.2 with ⟨rfl, h0⟩ | ⟨g, cap, cur, rfl, _⟩
  · subst h0
    exact ⟨_, _, rfl⟩
  · exact ⟨_, _, rfl⟩
theorem own_offN {w w' : World} {B : Nat} {e : TypeId} {sz : Nat} {v : Value} {n : Nat} {xs : List Value} {S : Nat → Prop} (h : w.ownsRow B e sz v n xs) (ho : Off S w w') (hs : ∀ j cs, B ≤ j → Blk w j e cs → ¬ S j) : w'.ownsRow B e sz v n xs := by
  rcases h with ⟨h1, h | ⟨g, cap, cur, hv, hb, hg, rest⟩⟩
  · exact ⟨h1, .inl h⟩
  · exact ⟨h1, .inr ⟨g, cap, cur, hv, hb, Blk.off (w := w) (show Blk w g e cur from hg) ho (hs g cur hb hg), rest⟩⟩
theorem own_baseN {w : World} {B B' : Nat} {e : TypeId} {sz : Nat} {v : Value} {n : Nat} {xs : List Value} (h : w.ownsRow B e sz v n xs) (hB : B' ≤ B) : w.ownsRow B' e sz v n xs := by
  rcases h with ⟨h1, h | ⟨g, cap, cur, hv, hb, rest⟩⟩
  · exact ⟨h1, .inl h⟩
  · exact ⟨h1, .inr ⟨g, cap, cur, hv, Nat.le_trans hB hb, rest⟩⟩
theorem news_alloc {w1 : World} {ax : Addr} {news : List Value} (h : ∀ j u, news[j]? = some u → w1.cell? (ax.add j) = some u) (hb : ax.block < w1.heap.size) (o : Obj) : ∀ j u, news[j]? = some u → (w1.alloc o).cell? (ax.add j) = some u := fun j u hj => by
  have := Off.cell_ ((Off.refl (fun _ => False) w1).alloc o) (p := ax.add j) (by rw [addr_block_]; exact hb) (fun h => h)
  rw [this]
  exact h j u hj
theorem off_append0 {w1 w3 : World} {o : Obj} {n c : Nat} (hg : (w1.alloc o).grownBy w3 (Value.slice (some ⟨w1.heap.size, 0, none⟩) n c).ownBlock) : Off (fun _ => False) w1 w3 :=
  ((Off.refl (fun _ => False) w1).alloc o).trans (off_of_grown (S := fun j => j = w1.heap.size) hg (fun j _ h => by
    have : w1.heap.size = j := by simpa [Value.ownBlock] using h
    omega)) (fun j hj h => by omega)
theorem own_cell {w : World} {B : Nat} {e : TypeId} {g c n : Nat} {xs : List Value} (h : w.ownsRow B e 1 (.slice (some ⟨g, 0, none⟩) n c) n xs) {i : Nat} {v : Value} (hv : xs[i]? = some v) : w.cell? ⟨g, i, none⟩ = some v := by
  rcases h.2 with ⟨h1, _⟩ | ⟨g', cap, cur, h1, hb, hg, hn, hcap, hcs, htk⟩
  · injection h1 with h2
    cases h2
  · injection h1 with h2 _ _
    injection h2 with h2
    injection h2 with h2
    subst h2
    have hl := (List.getElem?_eq_some_iff.1 hv).1
    have hll := h.1
    have h3 := congrArg (fun l => l[i]?) htk
    simp only [Nat.mul_one] at h3
    rw [List.getElem?_take_of_lt (by omega), hv, Array.getElem?_toList] at h3
    exact (cell_of_row w g i cur _ (0, 0) hg).trans h3

theorem ARel.app {cur : List FD} {w wc : World} {k : Nat} {fl : Value} (R : ARel cur w wc k fl) {g : FD} (hg : cur[k]? = some g) {v' : Value} {w5 : World} {o : Obj} (hown : w5.ownsRow (w.heap.size + 2) 36 5 v' (k + 1) (flatV (cur.take k) ++ g.val.toList)) (hgr : (wc.alloc o).grownBy w5 fl.ownBlock) :
    ARel cur w (w5.setCell ⟨w.heap.size + 1, 0, none⟩ v') (k + 1) v' ∧ w5.cell? ⟨w.heap.size + 1, 0, none⟩ = some fl ∧ w5.frozen? ⟨w.heap.size + 1, 0, none⟩ = false ∧ w.heap.size + 1 < w5.heap.size := by
  have hno : ∀ j, fl.ownBlock = some j → w.heap.size + 2 ≤ j := fun j hj => (own_blkN R.row hj).1
  have hob := (R.out.alloc o).grown hgr (fun e => by have := hno _ e.symm; omega)
  have hre := (R.res.alloc o).grown hgr (fun e => by have := hno _ e.symm; omega)
  have hsz := R.size
  have hb5 := (R.below.alloc (by omega) o).grown hgr (by simp; omega) (fun j hj => by have := hno j hj; omega)
  refine ⟨⟨hob.set_ 0 v', hre.far (p := ⟨w.heap.size + 1, 0, none⟩) (by simp) v', ?_, ?_, hb5.setCell (p := ⟨w.heap.size + 1, 0, none⟩) (by simp) v'⟩, hob.cell 0, hob.frozen 0, hob.lt⟩
  · have h := hown.kept (grown_of_off1 ((Off.refl (fun j => j = w.heap.size + 1) w5).setCell (p := ⟨w.heap.size + 1, 0, none⟩) (fun _ => rfl) v')) (.inr (fun e => by have := (own_blkN hown e).1; omega))
    rw [flatV_snoc hg]
    exact h
  · have := hgr.size
    simp [World.setCell] at this ⊢
    omega

theorem val_one (f : FD) : ∀ u ∈ f.val.toList, u.oneCell' = true := fun u hu => by
  simp only [FD.val, List.mem_cons, List.not_mem_nil, or_false] at hu
  rcases hu with rfl | rfl | rfl | rfl | rfl <;> rfl

set_option maxHeartbeats 2000000 in
set_option maxRecDepth 100000 in
theorem answer_any {w : World} {B sb fb : Nat} {es0 es : List Ent} {u act mv vb vn vt : Value} {A : Option Addr} {rest : List ByteArray} {c : Nat} {ak : List (ByteArray × Nat)} {ss : List ByteArray} (fs : List FD) (A0 : Option Addr) (cz : Nat)
    (h : PS w B sb fb es0 es u act mv (.slice A0 fs.length cz) vb vn vt A rest c ak ss) (hin : FlagsIn w w.heap.size A0 fs) (ho : OnlyAll fs (es.map (·.f))) (hr : rest.length ≤ 100000) (hk2 : ∀ (k : Nat) (hk : k < fs.length), 0 ≤ fs[k].kind ∧ fs[k].kind ≤ 2) :
    Calls Tryz.prog 34 #[.pointer (some ⟨sb, 0, none⟩), .nilIface] w (AnsPost (es.map (·.f)) ss rest w) := by
  have s1 : w.cell? ⟨sb, 1, none⟩ = some (.slice A0 fs.length cz) := h.set.set.cell 1
  have hsl := h.set.set.lt
  have hfew := h.few
  have hlen : (es.map (·.f)).length = fs.length := ho.1
  rw [List.length_map] at hlen
  have HP := hide h
  have Hin := hide hin
  have Ho := hide ho
  have Hlen := hide hlen
  have hfl : fs.length ≤ 100 := by omega
  clear h hin ho hlen
  go_enter Tryz.func34, Tryz.ntmps34
  have hz : ∀ o : Obj, (w.alloc o).heap.size = w.heap.size + 1 := fun o => by simp
  obtain ⟨i0, hi0, hz00, hz01, hz02⟩ := info_parts Tryz.infoFlag
  go_wp2_with fail
  go_loopw [13] (fun i wr => ∃ (k : Nat) (fl : Value), k ≤ fs.length ∧ i = .int .i64 k ∧ ARel (es.map (·.f)) w wr k fl) (fun i _ => fs.length - (intOf i).toNat)
  case atStart =>
    refine ⟨0, .slice none 0 0, Nat.zero_le _, rfl, ?_, (Blk.new w _ _).alloc _, ?_, by simp, ((Below.refl _ _).alloc (Nat.le_refl _) _).alloc (by simp) _⟩
    · have := Blk.new (w.alloc (.cells (ansCells (.slice none 0 0) (.slice none 0 0) (.slice none 0 0) 0) 31)) 31 (ansCells (.slice none 0 0) (.slice none 0 0) (.slice none 0 0) 0)
      rw [hz] at this
      exact this
    · exact ⟨rfl, .inl ⟨rfl, rfl⟩⟩
  case round =>
    obtain ⟨k, fl, hk, rfl, hR⟩ := hrel
    by_cases hlt : k < fs.length
    · obtain ⟨b, off, rfl, hB, hc⟩ := Hin.out k hlt
      have hf : fs[k]? = some fs[k] := List.getElem?_eq_getElem hlt
      obtain ⟨c0, c1, c2, c3, c4⟩ := (hc k _ hf).below hR.below hB
      have HR := hide hR
      have hsz := hR.size
      have hke : k < es.length := by have := Hlen.out; omega
      have hem : es[k] ∈ es := List.getElem_mem hke
      have hk0 : k < es0.length := by have h1 := congrArg List.length HP.out.old; simp at h1; omega
      have hgk : (es.map (·.f))[k]? = some es[k].f := by rw [List.getElem?_map, List.getElem?_eq_getElem hke]; rfl
      have honly := Ho.out.2 k _ _ hf hgk
      have hold : es0[k].v = es[k].v ∧ es0[k].f.kind = es[k].f.kind := by
        have h1 := congrArg (fun l => l[k]?) HP.out.old
        simp only [List.getElem?_map, List.getElem?_eq_getElem hke, List.getElem?_eq_getElem hk0, Option.map_some] at h1
        injection h1 with h1
        injection h1 with h1 h2
        exact ⟨h1.symm, h2.symm⟩
      have Hold := hide hold
      have Hgk := hide honly.kind
      have Honly := hide honly
      have Hgk2 := hide hgk
      have hbR := hide hR.below
      clear hc hR hgk honly hold
      go_upto_block 2 with fail
      go_name_world w1 hw1
      have HR1 : Hid (ARel (es.map (·.f)) w w1 k fl) := by rw [← hw1]; exact hide (HR.out.box _)
      have hx : Hid (Blk w1 wr.heap.size 36 fs[k].val) := by rw [← hw1]; exact hide (Blk.new _ _ _)
      have Hne : Hid (fl.ownBlock ≠ some wr.heap.size) := hide (fun e => by obtain ⟨_, cs, hb⟩ := own_blkN HR.out.row e; have := hb.lt; omega)
      have HP1 : Hid (PS w1 B sb fb es0 es u act mv (.slice (some ⟨b, off, none⟩) fs.length cz) vb vn vt A rest c ak ss) := hide (HP.out.keep (off_of_below HR1.out.below))
      have hxb : w.heap.size + 2 ≤ wr.heap.size := hsz
      have hx1c := hx.out.cell 1
      have hxl := hx.out.lt
      have z2 := hx.out.frozen 2
      have z3 := hx.out.frozen 3
      have z4 := hx.out.frozen 4
      have x2 : w1.cell? ⟨wr.heap.size, 2, none⟩ = some (.bool fs[k].on) := hx.out.cell 2
      have x3 : w1.cell? ⟨wr.heap.size, 3, none⟩ = some (.int .i64 fs[k].num) := hx.out.cell 3
      have x4 : w1.cell? ⟨wr.heap.size, 4, none⟩ = some (.string fs[k].text) := hx.out.cell 4
      clear hw1 c0 c1 c2 c3 c4 HR
      generalize wr.heap.size = xb at *
      go_cut [30] (fun _ w3 => ARel (es.map (·.f)) w w3 k fl ∧ Blk w3 xb 36 es[k].f.val)
      case first =>
        by_cases q0 : fs[k].kind = 0
        · have HQ := hide q0
          have d0 : (fs[k].kind == 0) = true := by simp [q0]
          clear q0
          have s2 : w1.cell? ⟨sb, 2, none⟩ = some vb := HP1.out.set.set.cell 2
          obtain ⟨rg, rc, rfl⟩ := own_shape HP1.out.set.rowB (by omega)
          have r2 : w1.cell? ⟨rg, k, none⟩ = some (.pointer (some ⟨es[k].v, 0, none⟩)) := own_cell HP1.out.set.rowB (by rw [List.getElem?_map, List.getElem?_eq_getElem hk0]; exact congrArg some ((Ent.ptr_same (Hold.out.2.trans (Hgk.out.trans HQ.out))).trans (by rw [Hold.out.1])))
          have v2 : w1.cell? ⟨es[k].v, 0, none⟩ = some (.bool es[k].f.on) := ((HP1.out.set.vars _ hem).cell 0).trans (congrArg some (by simp [FD.cur, Hgk.out.trans HQ.out]))
          have HV := hide ((only_val Honly.out).1 HQ.out)
          have Hset := hide (hx.out.set_ 2 (.bool es[k].f.on))
          have HRs := hide (HR1.out.set hx.out Hne.out hxb 2 (.bool es[k].f.on))
          have hrl : k < es0.length := hk0
          clear hx1c
          go_wp2_with fail
          go_meet
          case rel => exact ⟨HRs.out, by rw [HV.out]; exact Hset.out⟩
        · have d0 : (fs[k].kind == 0) = false := by simpa using q0
          have HQ0 := hide q0
          clear q0
          by_cases q1 : fs[k].kind = 1
          · have HQ := hide q1
            have d1 : (fs[k].kind == 1) = true := by simp [q1]
            clear q1
            have s2 : w1.cell? ⟨sb, 3, none⟩ = some vn := HP1.out.set.set.cell 3
            obtain ⟨rg, rc, rfl⟩ := own_shape HP1.out.set.rowN (by omega)
            have r2 : w1.cell? ⟨rg, k, none⟩ = some (.pointer (some ⟨es[k].v, 0, none⟩)) := own_cell HP1.out.set.rowN (by rw [List.getElem?_map, List.getElem?_eq_getElem hk0]; exact congrArg some ((Ent.ptr_same (Hold.out.2.trans (Hgk.out.trans HQ.out))).trans (by rw [Hold.out.1])))
            have v2 : w1.cell? ⟨es[k].v, 0, none⟩ = some (.int .i64 es[k].f.num) := ((HP1.out.set.vars _ hem).cell 0).trans (congrArg some (by simp [FD.cur, Hgk.out.trans HQ.out]))
            have HV := hide ((only_val Honly.out).2.1 HQ.out)
            have Hset := hide (hx.out.set_ 3 (.int .i64 es[k].f.num))
            have HRs := hide (HR1.out.set hx.out Hne.out hxb 3 (.int .i64 es[k].f.num))
            have hrl : k < es0.length := hk0
            clear hx1c
            go_wp2_with fail
            go_meet
            case rel => exact ⟨HRs.out, by rw [HV.out]; exact Hset.out⟩
          · have d1 : (fs[k].kind == 1) = false := by simpa using q1
            have HQ1 := hide q1
            clear q1
            have HQ : Hid (fs[k].kind = 2) := hide (by have h0 := HQ0.out; have h1 := HQ1.out; have h2 := hk2 k hlt; omega)
            have s2 : w1.cell? ⟨sb, 4, none⟩ = some vt := HP1.out.set.set.cell 4
            obtain ⟨rg, rc, rfl⟩ := own_shape HP1.out.set.rowT (by omega)
            have r2 : w1.cell? ⟨rg, k, none⟩ = some (.pointer (some ⟨es[k].v, 0, none⟩)) := own_cell HP1.out.set.rowT (by rw [List.getElem?_map, List.getElem?_eq_getElem hk0]; exact congrArg some ((Ent.ptr_same (Hold.out.2.trans (Hgk.out.trans HQ.out))).trans (by rw [Hold.out.1])))
            have v2 : w1.cell? ⟨es[k].v, 0, none⟩ = some (.string es[k].f.text) := ((HP1.out.set.vars _ hem).cell 0).trans (congrArg some (by have hk' := Hgk.out.trans HQ.out; simp [FD.cur, hk']))
            have HV := hide ((only_val Honly.out).2.2 HQ0.out HQ1.out)
            have Hset := hide (hx.out.set_ 4 (.string es[k].f.text))
            have HRs := hide (HR1.out.set hx.out Hne.out hxb 4 (.string es[k].f.text))
            have hrl : k < es0.length := hk0
            clear hx1c
            go_wp2_with fail
            go_meet
            case rel => exact ⟨HRs.out, by rw [HV.out]; exact Hset.out⟩
      case rest =>
        obtain ⟨hR3, hx3⟩ := hcut
        have HR3 := hide hR3
        have o0 : wc.cell? ⟨w.heap.size + 1, 0, none⟩ = some fl := hR3.out.cell 0
        have x0 : wc.cell? ⟨xb, 0, none⟩ = some (.string es[k].f.name) := hx3.cell 0
        have x1 : wc.cell? ⟨xb, 1, none⟩ = some (.int .i64 es[k].f.kind) := hx3.cell 1
        have x2 : wc.cell? ⟨xb, 2, none⟩ = some (.bool es[k].f.on) := hx3.cell 2
        have x3 : wc.cell? ⟨xb, 3, none⟩ = some (.int .i64 es[k].f.num) := hx3.cell 3
        have x4 : wc.cell? ⟨xb, 4, none⟩ = some (.string es[k].f.text) := hx3.cell 4
        have hol := hR3.out.lt
        have hwz := hR3.size
        clear hR3 hx3 HR1 hx Hne HP1 z2 z3 z4 hxl hx1c
        go_upto_region 12 with (at_builtin; refine wpList_append_own _ rfl _ _ 22 rfl (w.heap.size + 2) 36 i0 _ 5 56 Tryz.underlying22 hi0 hz00 hz01 hz02 rfl (by decide) fl k (flatV ((es.map (·.f)).take k)) rfl (HR3.out.row.alloc _) ⟨wc.heap.size, 0, none⟩ 1 1 es[k].f.val.toList rfl rfl (World.news_of_block (cs := es[k].f.val) (t := 36) (fr := (0, 0)) (heap_alloc_new wc _)) (val_one es[k].f) (by unfold maxLen; omega) (by omega) (by simp; omega) ?_; intro v' w5 hown5 hgr5 hni; clear hni; obtain ⟨g5, c5, rfl⟩ := own_shapeN hown5 (by omega); obtain ⟨hA, hcl, hfr, hsl5⟩ := HR3.out.app Hgk2.out hown5 hgr5; have HA := hide hA; clear hown5 hgr5 hA)
        go_wp2_with fail
        go_roundw
        case rel => exact ⟨k + 1, _, by omega, by go_num, HA.out⟩
        case measure => simp [intOf]; omega
    · have hke : k = fs.length := by omega
      subst hke
      have htk : (es.map (·.f)).take fs.length = es.map (·.f) := List.take_of_length_le (by rw [List.length_map]; have := Hlen.out; omega)
      obtain ⟨fa, fc, rfl⟩ := own_lenN hR.row
      have HR := hide hR
      have HPr := hide (HP.out.keep (off_of_below hR.below))
      have Htk := hide htk
      have hwz := hR.size
      clear hR htk
      have s0 : wr.cell? ⟨sb, 0, none⟩ = some (.pointer (some ⟨fb, 0, none⟩)) := HPr.out.set.set.cell 0
      have hp2 : ∀ p ∈ ak, ∃ e ∈ es, p = (e.f.name, e.p) := fun p hp => by
        have h1 := HP.out.akP p hp
        unfold kpsOf at h1
        obtain ⟨e, he, rfl⟩ := List.mem_map.1 h1
        exact ⟨e, List.mem_reverse.1 he, rfl⟩
      have HV := hide (visitVisit_any (w.heap.size + 1) fb u true act mv (.slice A rest.length c) ak (ansCells (.slice fa fs.length fc) (.slice none 0 0) (.slice none 0 0) 0) wr HPr.out.set.fset HPr.out.actM (HPr.out.seen.nodup_iff.2 HPr.out.nodup) (by have := ak_few HPr.out; omega) (fun p hp => by
          obtain ⟨e, he, rfl⟩ := hp2 p hp
          exact (HPr.out.set.flags e he).cell 0) HR.out.out rfl (fun p hp e1 => by
          obtain ⟨e, he, rfl⟩ := hp2 p hp
          have := (HP.out.set.flags e he).lt
          simp only at e1
          omega))
      clear hp2
      go_upto_region 14 with (go_at_call 49; refine HV.out.mono ?_; rintro e w2 ⟨rfl, nv, ks, hp, hby, hb2, hown2, ho2⟩; obtain ⟨na, nc, rfl⟩ := own_lenN hown2; have Hp := hide hp; have Hby := hide hby; have Hb2 := hide hb2; have Hown2 := hide hown2; have Ho2 := hide ho2; clear hp hby hb2 hown2 ho2)
      have hz2 := Ho2.out.size
      have HO2 : Hid (Off (fun _ => False) w w2) := hide ((off_of_below (S := fun _ => False) HR.out.below).trans Ho2.out (fun j hj e => by omega))
      have HP2 := hide (HP.out.keep HO2.out)
      have Hfl2 := hide (own_offN HR.out.row Ho2.out (fun j _ hj _ e => by omega))
      have Hre2 := hide (HR.out.res.off Ho2.out (by omega))
      obtain ⟨ab, aoff, acs, rfl, _, hab, hac⟩ := HP2.out.args
      have hnews : ∀ j v, (rest.map Value.string)[j]? = some v → w2.cell? ((⟨ab, aoff, none⟩ : Addr).add j) = some v := fun j v hj => by
        rw [List.getElem?_map] at hj
        obtain ⟨t, ht, rfl⟩ := Option.map_eq_some_iff.1 hj
        rw [addr_plus_, hab.cell]
        exact hac j t ht
      have Hnews := hide (news_alloc hnews hab.lt (.cells #[] 9))
      have Hfs := hide (HP2.out.set.fset.alloc (.cells #[] 9))
      have s2 : w2.cell? ⟨sb, 0, none⟩ = some (.pointer (some ⟨fb, 0, none⟩)) := HP2.out.set.set.cell 0
      have hsl2 := HP2.out.set.set.lt
      have hown0 := hide (show (w2.alloc (.cells #[] 9)).ownsRow w2.heap.size 9 1 (.slice (some ⟨w2.heap.size, 0, none⟩) 0 0) 0 [] from ⟨rfl, .inr ⟨w2.heap.size, 0, #[], rfl, Nat.le_refl _, heap_alloc_new w2 _, Nat.le_refl _, Nat.zero_le _, rfl, rfl⟩⟩)
      obtain ⟨j0, hj0, hy00, hy01, hy02⟩ := info_parts Tryz.infoText
      clear hab hac hnews HV
      go_upto_region 15 with (first
        | (go_at_call 51; refine (args_any Hfs.out).mono ?_; rintro e w' ⟨rfl, rfl⟩)
        | (at_builtin; refine wpList_append_own _ rfl _ _ 26 rfl w2.heap.size 9 j0 _ 1 16 Tryz.underlying26 hj0 hy00 hy01 hy02 rfl (by decide) _ 0 [] rfl hown0.out ⟨ab, aoff, none⟩ rest.length c (rest.map Value.string) rfl (by simp) Hnews.out (fun u hu => by obtain ⟨t, _, rfl⟩ := List.mem_map.1 hu; rfl) (by unfold maxLen; omega) (by omega) (by simp) ?_; intro v' w3 hown3 hgr3 hni; clear hni; rw [Nat.zero_add, List.nil_append] at hown3; obtain ⟨ra, rc, rfl⟩ := own_lenN hown3; have HO3 := hide (off_append0 hgr3); have Hb3 := hide (Hb2.out.off HO3.out (fun h => h)); have hcl3 := Hb3.out.cell 2; have hfr3 := Hb3.out.frozen 2; have hsl3 := Hb3.out.lt; have Hown3 := hide hown3; clear hown3 hgr3))
      have HRr3 := hide (own_baseN (own_offN Hown2.out HO3.out (fun _ _ _ _ h => h)) (show w.heap.size + 2 ≤ wr.heap.size by omega))
      have HRf3 := hide (own_offN Hfl2.out HO3.out (fun _ _ _ _ h => h))
      have HRt3 := hide (own_baseN Hown3.out (show w.heap.size + 2 ≤ w2.heap.size by omega))
      have HRe3 := hide (Hre2.out.off HO3.out (fun h => h))
      have Hbel3 : Hid (Below w.heap.size w w3) := hide ((HO2.out.trans HO3.out (fun _ _ h => h)).below (fun _ _ h => h.elim) (Nat.le_refl _))
      obtain ⟨w5, hw5⟩ : ∃ w5, w5 = (w3.setCell ⟨w.heap.size + 1, 2, none⟩ (.slice ra rest.length rc)).setCell ⟨w.heap.size + 1, 3, none⟩ (.int .i64 0) := ⟨_, rfl⟩
      have HB5 : Hid (Blk w5 (w.heap.size + 1) 31 (ansCells (.slice fa fs.length fc) (.slice na ks.length nc) (.slice ra rest.length rc) 0)) := by rw [hw5]; exact hide ((Hb3.out.set_ 2 (.slice ra rest.length rc)).set_ 3 (.int .i64 0))
      have HR5 : Hid (Blk w5 w.heap.size 31 (ansCells (.slice none 0 0) (.slice none 0 0) (.slice none 0 0) 0)) := by rw [hw5]; exact hide ((HRe3.out.far (p := ⟨w.heap.size + 1, 2, none⟩) (by simp) _).far (p := ⟨w.heap.size + 1, 3, none⟩) (by simp) _)
      have HO5 : Hid (Off (fun j => j = w.heap.size ∨ j = w.heap.size + 1) w3 w5) := by rw [hw5]; exact hide (((Off.refl (fun j => j = w.heap.size ∨ j = w.heap.size + 1) w3).setCell (p := ⟨w.heap.size + 1, 2, none⟩) (fun _ => .inr rfl) _).setCell (p := ⟨w.heap.size + 1, 3, none⟩) (fun _ => .inr rfl) _)
      have k3 : (w3.setCell ⟨w.heap.size + 1, 2, none⟩ (.slice ra rest.length rc)).cell? ⟨w.heap.size + 1, 3, none⟩ = some (.int .i64 0) := (Hb3.out.set_ 2 (.slice ra rest.length rc)).cell 3
      have f3 := (Hb3.out.set_ 2 (.slice ra rest.length rc)).frozen 3
      have hee : ∀ W, (binOp .eql 60 .nilIface .nilIface).run Tryz.prog W = .ok (.bool true) W := fun W => by kernel_rfl
      clear Hown2 Hfl2 Hre2 Hown3 HRe3 Hb2 Hb3 HP2 HPr HR hcl3 hfr3 s0 s2 Hfs Hnews
      go_upto_region 21 with fail
      rw [← hw5]
      clear hw5 k3 f3 hee
      have a0 : w5.cell? ⟨w.heap.size + 1, 0, none⟩ = some (.slice fa fs.length fc) := HB5.out.cell 0
      have a1 : w5.cell? ⟨w.heap.size + 1, 1, none⟩ = some (.slice na ks.length nc) := HB5.out.cell 1
      have a2 : w5.cell? ⟨w.heap.size + 1, 2, none⟩ = some (.slice ra rest.length rc) := HB5.out.cell 2
      have a3 : w5.cell? ⟨w.heap.size + 1, 3, none⟩ = some (.int .i64 0) := HB5.out.cell 3
      have d0 : w5.cell? ⟨w.heap.size, 0, none⟩ = some (.slice none 0 0) := HR5.out.cell 0
      have d1 : w5.cell? ⟨w.heap.size, 1, none⟩ = some (.slice none 0 0) := HR5.out.cell 1
      have d2 : w5.cell? ⟨w.heap.size, 2, none⟩ = some (.slice none 0 0) := HR5.out.cell 2
      have d3 : w5.cell? ⟨w.heap.size, 3, none⟩ = some (.int .i64 0) := HR5.out.cell 3
      have g0 := HR5.out.frozen 0
      have g1 := HR5.out.frozen 1
      have g2 := HR5.out.frozen 2
      have g3 := HR5.out.frozen 3
      go_wp2_with fail
      (try simp only [Exit.inBlock, Exit.then])
      refine bodyPost_ret (results_cell_row rfl _ _ w.heap.size 31 (ansCells (.slice fa fs.length fc) (.slice na ks.length nc) (.slice ra rest.length rc) 0) (0, 0) _ rfl ((((HR5.out.set_ 0 (.slice fa fs.length fc)).set_ 1 (.slice na ks.length nc)).set_ 2 (.slice ra rest.length rc)).set_ 3 (.int .i64 0)) Tryz.underlying31 rfl (by kernel_rfl)) rfl ?_
      have hoff := ((((HO5.out.setCell (p := ⟨w.heap.size, 0, none⟩) (fun _ => .inl rfl) (.slice fa fs.length fc)).setCell (p := ⟨w.heap.size, 1, none⟩) (fun _ => .inl rfl) (.slice na ks.length nc)).setCell (p := ⟨w.heap.size, 2, none⟩) (fun _ => .inl rfl) (.slice ra rest.length rc)).setCell (p := ⟨w.heap.size, 3, none⟩) (fun _ => .inl rfl) (.int .i64 0))
      have hl : (es.map (·.f)).length = fs.length := by rw [List.length_map]; exact Hlen.out
      have hkl : (ks.map (·.1)).length = ks.length := List.length_map _
      refine ⟨fa, fc, na, nc, ra, rc, ks.map (·.1), by rw [hl, hkl], (Hp.out.map (·.1)).trans HP.out.seen, (by unfold InOrder; exact List.pairwise_map.2 Hby.out), ?_, ?_, ?_, ?_⟩
      · rw [hl]
        have h1 := own_offN HRf3.out hoff (fun j _ hj _ e => by rcases e with e | e <;> omega)
        rw [Htk.out] at h1
        exact own_baseN h1 (by omega)
      · rw [hkl, List.map_map]
        exact own_baseN (own_offN HRr3.out hoff (fun j _ hj _ e => by rcases e with e | e <;> omega)) (by omega)
      · exact own_baseN (own_offN HRt3.out hoff (fun j _ hj _ e => by rcases e with e | e <;> omega)) (by omega)
      · exact Hbel3.out.trans (hoff.below (fun j _ hj => by rcases hj with e | e <;> omega) (by have := Hbel3.out.size; omega))
end Go.Proofs.YtpcmiaablanmeaaGreatDoor
