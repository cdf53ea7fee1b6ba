/- FlagSet.Bool, Int and String define a flag with a variable of its own. -/
import Derived.Test.YtpcmiaablanmeaaGreatDoorVar
namespace Go.Proofs.YtpcmiaablanmeaaGreatDoor
open Go.RowKit Go.Maps

/-- What they leave: the new variable at block v, the new flag at block p; the set's map has it; all else stands. -/
def AddPost (w : World) (fb : Nat) (u : Value) (parsed : Bool) (act mv args : Value) (kps : List (ByteArray × Nat)) (name : ByteArray) (T Tp : TypeId) (val : Value) (e : Ending) (w' : World) : Prop :=
  ∃ v p mv' d, e = .returned (.pointer (some ⟨v, 0, none⟩)) ∧ w.heap.size ≤ v ∧ w.heap.size ≤ p ∧ Blk w' v T #[val] ∧ Blk w' p 94 #[.string name, .string ⟨#[]⟩, .iface Tp (.pointer (some ⟨v, 0, none⟩)), .string d] ∧
    MapIs w' mv' ((name, p) :: kps) ∧ (∀ i, mapBlock mv' i → mapBlock mv i ∨ w.heap.size ≤ i) ∧ Blk w' fb 82 (fsCells u parsed act mv' args) ∧ Off (fun i => i = fb ∨ mapBlock mv i) w w'

theorem add_close {w w' : World} {fb : Nat} {u : Value} {parsed : Bool} {act mv args : Value} {kps : List (ByteArray × Nat)} {name : ByteArray} {T Tp : TypeId} {val : Value} {e : Ending} (hfb : Blk w fb 82 (fsCells u parsed act mv args)) (hm : MapIs w mv kps)
    (h : VarPost (w.alloc (.cells #[val] T)) fb u parsed act mv args kps name ⟨#[]⟩ (.iface Tp (.pointer (some ⟨w.heap.size, 0, none⟩))) e w') :
    AddPost w fb u parsed act mv args kps name T Tp val (.returned (.pointer (some ⟨w.heap.size, 0, none⟩))) w' := by
  obtain ⟨_, p, mv', d, hp, hb, hm', hi, hf, ho⟩ := h
  simp at hp
  have hlt := hfb.lt
  refine ⟨w.heap.size, p, mv', d, rfl, Nat.le_refl _, by omega, (Blk.new w T #[val]).off ho ?_, hb, hm', fun i h => ?_, hf, (Off.refl _ w).alloc _ |>.trans ho (fun i _ h => h)⟩
  · rintro (h | h)
    · omega
    · have := hm.lt _ h; omega
  · rcases hi i h with h | h
    · exact .inl h
    · exact .inr (by simp at h; omega)

set_option maxHeartbeats 1000000 in
set_option maxRecDepth 100000 in
theorem addBool_any (fb : Nat) (u : Value) (parsed : Bool) (act mv args : Value) (kps : List (ByteArray × Nat)) (name : ByteArray) (x : Bool) (w : World) (hfb : Blk w fb 82 (fsCells u parsed act mv args))
    (hm : MapIs w mv kps) (hk : kps.length < 2000) (h0 : 0 < name.size) (h1 : name.size ≤ 1048576) (hd : name[0] ≠ 45) (hs : signOf name < 0) (hnot : kps.any (fun p => decide (p.1 = name)) = false)  :
    Calls Tryz.prog 45 #[.pointer (some ⟨fb, 0, none⟩), .string name, .bool x, .string ⟨#[]⟩] w (AddPost w fb u parsed act mv args kps name 4 139 (.bool x)) := by
  have Hc := hide (fun e w' h => add_close (w' := w') (e := e) (name := name) (T := 4) (Tp := 139) (val := .bool x) hfb hm h)
  have Hs : Hid (Calls Tryz.prog 134 #[.pointer (some ⟨w.heap.size, 0, none⟩)] (w.alloc (.cells #[.bool x] 4)) (SomeStr (w.alloc (.cells #[.bool x] 4)))) := hide (boolString_some _ x _ (by simp))
  have Hfb := hide (hfb.alloc (.cells #[.bool x] 4))
  have Hm := hide (hm.off (w' := w.alloc (.cells #[.bool x] 4)) ((Off.refl (fun _ => False) w).alloc _) (fun _ _ h => h))
  have Hd := hide hd
  have Hnot := hide hnot
  clear hfb hm hd hnot
  go_enter Tryz.func45, Tryz.ntmps45
  go_wp2_with (first
    | (go_at_call 82; refine (var_bool fb u parsed act mv args kps name _ w.heap.size _ Hfb.out Hm.out hk h0 h1 Hd.out hs Hnot.out Hs.out).mono ?_; rintro e w1 hv; have hc := hide (Hc.out _ _ hv); obtain ⟨rfl, hv⟩ := hv; clear hv)
    | go_in)
  go_end0
  go_wp2_with fail
  go_ret
  exact hc.out
set_option maxHeartbeats 1000000 in
set_option maxRecDepth 100000 in
theorem addInt_any (fb : Nat) (u : Value) (parsed : Bool) (act mv args : Value) (kps : List (ByteArray × Nat)) (name : ByteArray) (x : Int) (w : World) (hfb : Blk w fb 82 (fsCells u parsed act mv args))
    (hm : MapIs w mv kps) (hk : kps.length < 2000) (h0 : 0 < name.size) (h1 : name.size ≤ 1048576) (hd : name[0] ≠ 45) (hs : signOf name < 0) (hnot : kps.any (fun p => decide (p.1 = name)) = false) (hx0 : -9223372036854775808 ≤ x) (hx1 : x ≤ 9223372036854775807) (ht : TabOk w) :
    Calls Tryz.prog 46 #[.pointer (some ⟨fb, 0, none⟩), .string name, .int .i64 x, .string ⟨#[]⟩] w (AddPost w fb u parsed act mv args kps name 3 141 (.int .i64 x)) := by
  have Hc := hide (fun e w' h => add_close (w' := w') (e := e) (name := name) (T := 3) (Tp := 141) (val := .int .i64 x) hfb hm h)
  have Hs : Hid (Calls Tryz.prog 159 #[.pointer (some ⟨w.heap.size, 0, none⟩)] (w.alloc (.cells #[.int .i64 x] 3)) (SomeStr (w.alloc (.cells #[.int .i64 x] 3)))) := hide (intString_some _ x _ (by simp) hx0 hx1 (ht.below ((Below.refl w.heap.size w).alloc (Nat.le_refl _) _) ht.lt))
  have Hfb := hide (hfb.alloc (.cells #[.int .i64 x] 3))
  have Hm := hide (hm.off (w' := w.alloc (.cells #[.int .i64 x] 3)) ((Off.refl (fun _ => False) w).alloc _) (fun _ _ h => h))
  have Hd := hide hd
  have Hnot := hide hnot
  clear hfb hm hd hnot
  go_enter Tryz.func46, Tryz.ntmps46
  go_wp2_with (first
    | (go_at_call 82; refine (var_int fb u parsed act mv args kps name _ w.heap.size _ Hfb.out Hm.out hk h0 h1 Hd.out hs Hnot.out Hs.out).mono ?_; rintro e w1 hv; have hc := hide (Hc.out _ _ hv); obtain ⟨rfl, hv⟩ := hv; clear hv)
    | go_in)
  go_end0
  go_wp2_with fail
  go_ret
  exact hc.out
set_option maxHeartbeats 1000000 in
set_option maxRecDepth 100000 in
theorem addString_any (fb : Nat) (u : Value) (parsed : Bool) (act mv args : Value) (kps : List (ByteArray × Nat)) (name : ByteArray) (x : ByteArray) (w : World) (hfb : Blk w fb 82 (fsCells u parsed act mv args))
    (hm : MapIs w mv kps) (hk : kps.length < 2000) (h0 : 0 < name.size) (h1 : name.size ≤ 1048576) (hd : name[0] ≠ 45) (hs : signOf name < 0) (hnot : kps.any (fun p => decide (p.1 = name)) = false)  :
    Calls Tryz.prog 47 #[.pointer (some ⟨fb, 0, none⟩), .string name, .string x, .string ⟨#[]⟩] w (AddPost w fb u parsed act mv args kps name 9 143 (.string x)) := by
  have Hc := hide (fun e w' h => add_close (w' := w') (e := e) (name := name) (T := 9) (Tp := 143) (val := .string x) hfb hm h)
  have Hs : Hid (Calls Tryz.prog 167 #[.pointer (some ⟨w.heap.size, 0, none⟩)] (w.alloc (.cells #[.string x] 9)) (SomeStr (w.alloc (.cells #[.string x] 9)))) := hide (stringString_some _ x _ (by simp))
  have Hfb := hide (hfb.alloc (.cells #[.string x] 9))
  have Hm := hide (hm.off (w' := w.alloc (.cells #[.string x] 9)) ((Off.refl (fun _ => False) w).alloc _) (fun _ _ h => h))
  have Hd := hide hd
  have Hnot := hide hnot
  clear hfb hm hd hnot
  go_enter Tryz.func47, Tryz.ntmps47
  go_wp2_with (first
    | (go_at_call 82; refine (var_string fb u parsed act mv args kps name _ w.heap.size _ Hfb.out Hm.out hk h0 h1 Hd.out hs Hnot.out Hs.out).mono ?_; rintro e w1 hv; have hc := hide (Hc.out _ _ hv); obtain ⟨rfl, hv⟩ := hv; clear hv)
    | go_in)
  go_end0
  go_wp2_with fail
  go_ret
  exact hc.out
end Go.Proofs.YtpcmiaablanmeaaGreatDoor
