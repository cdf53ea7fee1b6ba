/- FlagSet.Var enters a flag into the set. -/
import Derived.Test.YtpcmiaablanmeaaGreatDoorSearch
import Derived.Test.YtpcmiaablanmeaaGreatDoorMapP
import Derived.Test.YtpcmiaablanmeaaGreatDoorItoa
import Derived.StillTailTactics
import Derived.Deep.RegionWith
import Derived.Deep.CutRange
import Derived.Deep.Cut
import Derived.Lib.ItoaWalk
namespace Go.Proofs.YtpcmiaablanmeaaGreatDoor
open Go.RowKit Go.Maps

/-- The cells of a set of flags. -/
def fsCells (u : Value) (parsed : Bool) (act frm args : Value) : Array Value := #[u, .string ⟨#[]⟩, .bool parsed, act, frm, args, .int .i64 0, .map none]

theorem method_boolString (a : Addr) (w : World) : (method 319 139 (.pointer (some a)) "String").run Tryz.prog w = .ok (134, .pointer (some a)) w := by kernel_rfl
theorem method_intString (a : Addr) (w : World) : (method 319 141 (.pointer (some a)) "String").run Tryz.prog w = .ok (159, .pointer (some a)) w := by kernel_rfl
theorem method_stringString (a : Addr) (w : World) : (method 319 143 (.pointer (some a)) "String").run Tryz.prog w = .ok (167, .pointer (some a)) w := by kernel_rfl

/-- What FlagSet.Var leaves: a new flag at block p; the set's map has it; all else stands. -/
def VarPost (w : World) (fb : Nat) (u : Value) (parsed : Bool) (act mv args : Value) (kps : List (ByteArray × Nat)) (name usage : ByteArray) (val : Value) (e : Ending) (w' : World) : Prop :=
  e = .returned (.tuple #[]) ∧ ∃ p mv' d, w.heap.size ≤ p ∧ Blk w' p 94 #[.string name, .string usage, val, .string d] ∧ MapIs w' mv' ((name, p) :: kps) ∧ (∀ i, mapBlock mv' i → mapBlock mv i ∨ w.heap.size ≤ i) ∧
    Blk w' fb 82 (fsCells u parsed act mv' args) ∧ Off (fun i => i = fb ∨ mapBlock mv i) w w'

theorem var_close {w w3 w4 : World} {fb p mb : Nat} {u : Value} {parsed : Bool} {act mv args : Value} {kps : List (ByteArray × Nat)} {name usage d : ByteArray} {val : Value} (hpz : w.heap.size ≤ p) (hp : Blk w3 p 94 #[.string name, .string usage, val, .string d])
    (hf : Blk w3 fb 82 (fsCells u parsed act (.map (some mb)) args)) (hown : w3.ownsMap Tryz.prog 9 ptrElem mb kps.length (mapD kps)) (ho : Off (fun i => i = fb ∨ mapBlock mv i) w w3) (hmb : mapBlock mv mb ∨ w.heap.size ≤ mb)
    (hown4 : w4.ownsMap Tryz.prog 9 ptrElem mb ((name, p) :: kps).length (mapD ((name, p) :: kps))) (hg : w3.grownBy w4 (some mb)) : VarPost w fb u parsed act mv args kps name usage val (.returned (.tuple #[])) w4 := by
  have hn1 := owns_ne hown hf
  have hn2 := owns_ne hown hp
  refine ⟨rfl, p, .map (some mb), d, hpz, hp.grown hg (fun e => hn2 (by injection e)), .inr ⟨mb, rfl, hown4⟩, fun i hi => by cases hi; exact hmb, hf.grown hg (fun e => hn1 (by injection e)), ho.trans (off_of_grown (S := fun i => i = mb) hg (fun i _ e => by cases e; rfl)) ?_⟩
  intro i hi e
  subst e
  rcases hmb with h | h
  · exact .inr h
  · omega

set_option maxHeartbeats 1000000 in
set_option maxRecDepth 100000 in
theorem var_bool (fb : Nat) (u : Value) (parsed : Bool) (act mv args : Value) (kps : List (ByteArray × Nat)) (name usage : ByteArray) (v : Nat) (w : World) (hfb : Blk w fb 82 (fsCells u parsed act mv args))
    (hm : MapIs w mv kps) (hk : kps.length < 2000) (h0 : 0 < name.size) (h1 : name.size ≤ 1048576) (hd : name[0] ≠ 45) (hs : signOf name < 0) (hnot : kps.any (fun p => decide (p.1 = name)) = false)
    (hstr : Calls Tryz.prog 134 #[.pointer (some ⟨v, 0, none⟩)] w (SomeStr w)) :
    Calls Tryz.prog 82 #[.pointer (some ⟨fb, 0, none⟩), .iface 139 (.pointer (some ⟨v, 0, none⟩)), .string name, .string usage] w (VarPost w fb u parsed act mv args kps name usage (.iface 139 (.pointer (some ⟨v, 0, none⟩)))) := by
  have Hm := hide hm
  have Hd := hide hd
  have Hstr := hide hstr
  have Hnot := hide hnot
  have Hfb := hide hfb
  clear hm hd hstr hnot hfb
  have hmet := method_boolString ⟨v, 0, none⟩
  go_enter Tryz.func82, Tryz.ntmps82
  go_upto_region 5 with (first
    | (go_at_call 96; refine (hasDash_no name _ h0 Hd.out).mono ?_; rintro e w' ⟨rfl, rfl⟩)
    | (go_at_call 97; refine (zzContains_no name _ h1 hs).mono ?_; rintro e w' ⟨rfl, rfl⟩)
    | (go_at_call 134; refine Hstr.out.mono ?_; rintro e w1 ⟨d, rfl, hb1⟩))
  go_name_world w2 hw2
  have hno : Off (fun i => i = fb ∨ mapBlock mv i) w w1 := off_of_below hb1
  have hp2 : Blk w2 w1.heap.size 94 #[.string name, .string usage, .iface 139 (.pointer (some ⟨v, 0, none⟩)), .string d] := by rw [← hw2]; exact Blk.new _ _ _
  have ho2 : Off (fun i => i = fb ∨ mapBlock mv i) w w2 := by rw [← hw2]; exact hno.alloc _
  have hpz : w.heap.size ≤ w1.heap.size := hb1.size
  have hf : Off (fun _ => False) w w2 := by rw [← hw2]; exact (off_of_below hb1).alloc _
  clear hw2 hno hb1 hmet
  generalize w1.heap.size = p at *
  have HO := hide ho2
  have HP := hide hp2
  have Hfb2 := hide (Hfb.out.off hf (fun h => h))
  have hm2 := Hm.out.off hf (fun _ _ h => h)
  have hF2 := hide hf
  clear ho2 hp2 hf
  have c4 : w2.cell? ⟨fb, 4, none⟩ = some mv := Hfb2.out.cell 4
  have c7 : w2.cell? ⟨fb, 7, none⟩ = some (.map none) := Hfb2.out.cell 7
  have hmax : name.size ≤ maxLen := by unfold maxLen; omega
  have hl1 := hm2.look_ok name hmax
  rw [Hnot.out] at hl1
  have hl2 := look_undef w2 name hmax
  have qT : ∀ (w : World) (r : Option Nat), (binOp .eql 79 (.map r) (.map none)).run Tryz.prog w = .ok (.bool r.isNone) w := fun w r => run_eql_map_nil w _ _ _ r Tryz.underlying79
  have hfl := Hfb2.out.lt
  have hfz := Hfb2.out.frozen 4
  rcases hm2 with ⟨rfl, rfl⟩ | ⟨mb, rfl, hown⟩
  · have hmm := @run_makeMap Tryz.prog
    go_upto_region 13 with fail
    go_name_world w3 hw3
    obtain ⟨mb, hmb0⟩ : ∃ mb, mb = w2.heap.size := ⟨_, rfl⟩
    have hsz : (w2.setCell ⟨fb, 4, none⟩ (.map (some w2.heap.size))).heap.size = w2.heap.size := by simp [World.setCell]
    have hown3 := World.ownsMap_made (w2.setCell ⟨fb, 4, none⟩ (.map (some w2.heap.size))) Tryz.prog 9 ptrElem
    have hfb3 : Blk w3 fb 82 (fsCells u parsed act (.map (some mb)) args) := by rw [← hw3, hmb0]; exact (Hfb2.out.set_ 4 _).alloc _
    have hp3 := (HP.out.far (p := ⟨fb, 4, none⟩) (HP.out.ne_ Hfb2.out (by decide)) (.map (some w2.heap.size))).alloc (.map #[] 0)
    have ho3 := (HO.out.setCell (p := ⟨fb, 4, none⟩) (fun _ => .inl rfl) (.map (some w2.heap.size))).alloc (.map #[] 0)
    have hmb : mapBlock (.map none) mb ∨ w.heap.size ≤ mb := .inr (by rw [hmb0]; exact hF2.out.size)
    rw [hsz, hw3, ← hmb0] at hown3
    rw [hw3] at hp3 ho3
    rw [← hmb0]
    clear hw3 hsz hmb0 hmm hfl hfz
    replace hown3 : w3.ownsMap Tryz.prog 9 ptrElem mb ([] : List (ByteArray × Nat)).length (mapD []) := hown3
    have HC := hide (fun (w4 : World) h4 g4 => var_close (w4 := w4) hpz hp3 hfb3 hown3 ho3 hmb h4 g4)
    have d4 : w3.cell? ⟨fb, 4, none⟩ = some (.map (some mb)) := hfb3.cell 4
    obtain ⟨w4, hrun, hown4, hg4⟩ := ownsMap_put hown3 hk name hmax p
    have HC4 := hide (HC.out w4 hown4 hg4)
    clear ho3 hp3 hfb3 hown3 hmb hown4 hg4 c4 c7 hl1 hl2 qT HC
    go_wp2_with fail
    go_end0
    exact HC4.out
  · have hmb : mapBlock (.map (some mb)) mb ∨ w.heap.size ≤ mb := .inl rfl
    have HC := hide (fun (w4 : World) h4 g4 => var_close (w4 := w4) hpz HP.out Hfb2.out hown HO.out hmb h4 g4)
    obtain ⟨w4, hrun, hown4, hg4⟩ := ownsMap_put hown hk name hmax p
    have HC4 := hide (HC.out w4 hown4 hg4)
    clear hmb hown4 hg4 HC hown
    go_wp2_with fail
    go_end0
    exact HC4.out
set_option maxHeartbeats 1000000 in
set_option maxRecDepth 100000 in
theorem var_int (fb : Nat) (u : Value) (parsed : Bool) (act mv args : Value) (kps : List (ByteArray × Nat)) (name usage : ByteArray) (v : Nat) (w : World) (hfb : Blk w fb 82 (fsCells u parsed act mv args))
    (hm : MapIs w mv kps) (hk : kps.length < 2000) (h0 : 0 < name.size) (h1 : name.size ≤ 1048576) (hd : name[0] ≠ 45) (hs : signOf name < 0) (hnot : kps.any (fun p => decide (p.1 = name)) = false)
    (hstr : Calls Tryz.prog 159 #[.pointer (some ⟨v, 0, none⟩)] w (SomeStr w)) :
    Calls Tryz.prog 82 #[.pointer (some ⟨fb, 0, none⟩), .iface 141 (.pointer (some ⟨v, 0, none⟩)), .string name, .string usage] w (VarPost w fb u parsed act mv args kps name usage (.iface 141 (.pointer (some ⟨v, 0, none⟩)))) := by
  have Hm := hide hm
  have Hd := hide hd
  have Hstr := hide hstr
  have Hnot := hide hnot
  have Hfb := hide hfb
  clear hm hd hstr hnot hfb
  have hmet := method_intString ⟨v, 0, none⟩
  go_enter Tryz.func82, Tryz.ntmps82
  go_upto_region 5 with (first
    | (go_at_call 96; refine (hasDash_no name _ h0 Hd.out).mono ?_; rintro e w' ⟨rfl, rfl⟩)
    | (go_at_call 97; refine (zzContains_no name _ h1 hs).mono ?_; rintro e w' ⟨rfl, rfl⟩)
    | (go_at_call 159; refine Hstr.out.mono ?_; rintro e w1 ⟨d, rfl, hb1⟩))
  go_name_world w2 hw2
  have hno : Off (fun i => i = fb ∨ mapBlock mv i) w w1 := off_of_below hb1
  have hp2 : Blk w2 w1.heap.size 94 #[.string name, .string usage, .iface 141 (.pointer (some ⟨v, 0, none⟩)), .string d] := by rw [← hw2]; exact Blk.new _ _ _
  have ho2 : Off (fun i => i = fb ∨ mapBlock mv i) w w2 := by rw [← hw2]; exact hno.alloc _
  have hpz : w.heap.size ≤ w1.heap.size := hb1.size
  have hf : Off (fun _ => False) w w2 := by rw [← hw2]; exact (off_of_below hb1).alloc _
  clear hw2 hno hb1 hmet
  generalize w1.heap.size = p at *
  have HO := hide ho2
  have HP := hide hp2
  have Hfb2 := hide (Hfb.out.off hf (fun h => h))
  have hm2 := Hm.out.off hf (fun _ _ h => h)
  have hF2 := hide hf
  clear ho2 hp2 hf
  have c4 : w2.cell? ⟨fb, 4, none⟩ = some mv := Hfb2.out.cell 4
  have c7 : w2.cell? ⟨fb, 7, none⟩ = some (.map none) := Hfb2.out.cell 7
  have hmax : name.size ≤ maxLen := by unfold maxLen; omega
  have hl1 := hm2.look_ok name hmax
  rw [Hnot.out] at hl1
  have hl2 := look_undef w2 name hmax
  have qT : ∀ (w : World) (r : Option Nat), (binOp .eql 79 (.map r) (.map none)).run Tryz.prog w = .ok (.bool r.isNone) w := fun w r => run_eql_map_nil w _ _ _ r Tryz.underlying79
  have hfl := Hfb2.out.lt
  have hfz := Hfb2.out.frozen 4
  rcases hm2 with ⟨rfl, rfl⟩ | ⟨mb, rfl, hown⟩
  · have hmm := @run_makeMap Tryz.prog
    go_upto_region 13 with fail
    go_name_world w3 hw3
    obtain ⟨mb, hmb0⟩ : ∃ mb, mb = w2.heap.size := ⟨_, rfl⟩
    have hsz : (w2.setCell ⟨fb, 4, none⟩ (.map (some w2.heap.size))).heap.size = w2.heap.size := by simp [World.setCell]
    have hown3 := World.ownsMap_made (w2.setCell ⟨fb, 4, none⟩ (.map (some w2.heap.size))) Tryz.prog 9 ptrElem
    have hfb3 : Blk w3 fb 82 (fsCells u parsed act (.map (some mb)) args) := by rw [← hw3, hmb0]; exact (Hfb2.out.set_ 4 _).alloc _
    have hp3 := (HP.out.far (p := ⟨fb, 4, none⟩) (HP.out.ne_ Hfb2.out (by decide)) (.map (some w2.heap.size))).alloc (.map #[] 0)
    have ho3 := (HO.out.setCell (p := ⟨fb, 4, none⟩) (fun _ => .inl rfl) (.map (some w2.heap.size))).alloc (.map #[] 0)
    have hmb : mapBlock (.map none) mb ∨ w.heap.size ≤ mb := .inr (by rw [hmb0]; exact hF2.out.size)
    rw [hsz, hw3, ← hmb0] at hown3
    rw [hw3] at hp3 ho3
    rw [← hmb0]
    clear hw3 hsz hmb0 hmm hfl hfz
    replace hown3 : w3.ownsMap Tryz.prog 9 ptrElem mb ([] : List (ByteArray × Nat)).length (mapD []) := hown3
    have HC := hide (fun (w4 : World) h4 g4 => var_close (w4 := w4) hpz hp3 hfb3 hown3 ho3 hmb h4 g4)
    have d4 : w3.cell? ⟨fb, 4, none⟩ = some (.map (some mb)) := hfb3.cell 4
    obtain ⟨w4, hrun, hown4, hg4⟩ := ownsMap_put hown3 hk name hmax p
    have HC4 := hide (HC.out w4 hown4 hg4)
    clear ho3 hp3 hfb3 hown3 hmb hown4 hg4 c4 c7 hl1 hl2 qT HC
    go_wp2_with fail
    go_end0
    exact HC4.out
  · have hmb : mapBlock (.map (some mb)) mb ∨ w.heap.size ≤ mb := .inl rfl
    have HC := hide (fun (w4 : World) h4 g4 => var_close (w4 := w4) hpz HP.out Hfb2.out hown HO.out hmb h4 g4)
    obtain ⟨w4, hrun, hown4, hg4⟩ := ownsMap_put hown hk name hmax p
    have HC4 := hide (HC.out w4 hown4 hg4)
    clear hmb hown4 hg4 HC hown
    go_wp2_with fail
    go_end0
    exact HC4.out
set_option maxHeartbeats 1000000 in
set_option maxRecDepth 100000 in
theorem var_string (fb : Nat) (u : Value) (parsed : Bool) (act mv args : Value) (kps : List (ByteArray × Nat)) (name usage : ByteArray) (v : Nat) (w : World) (hfb : Blk w fb 82 (fsCells u parsed act mv args))
    (hm : MapIs w mv kps) (hk : kps.length < 2000) (h0 : 0 < name.size) (h1 : name.size ≤ 1048576) (hd : name[0] ≠ 45) (hs : signOf name < 0) (hnot : kps.any (fun p => decide (p.1 = name)) = false)
    (hstr : Calls Tryz.prog 167 #[.pointer (some ⟨v, 0, none⟩)] w (SomeStr w)) :
    Calls Tryz.prog 82 #[.pointer (some ⟨fb, 0, none⟩), .iface 143 (.pointer (some ⟨v, 0, none⟩)), .string name, .string usage] w (VarPost w fb u parsed act mv args kps name usage (.iface 143 (.pointer (some ⟨v, 0, none⟩)))) := by
  have Hm := hide hm
  have Hd := hide hd
  have Hstr := hide hstr
  have Hnot := hide hnot
  have Hfb := hide hfb
  clear hm hd hstr hnot hfb
  have hmet := method_stringString ⟨v, 0, none⟩
  go_enter Tryz.func82, Tryz.ntmps82
  go_upto_region 5 with (first
    | (go_at_call 96; refine (hasDash_no name _ h0 Hd.out).mono ?_; rintro e w' ⟨rfl, rfl⟩)
    | (go_at_call 97; refine (zzContains_no name _ h1 hs).mono ?_; rintro e w' ⟨rfl, rfl⟩)
    | (go_at_call 167; refine Hstr.out.mono ?_; rintro e w1 ⟨d, rfl, hb1⟩))
  go_name_world w2 hw2
  have hno : Off (fun i => i = fb ∨ mapBlock mv i) w w1 := off_of_below hb1
  have hp2 : Blk w2 w1.heap.size 94 #[.string name, .string usage, .iface 143 (.pointer (some ⟨v, 0, none⟩)), .string d] := by rw [← hw2]; exact Blk.new _ _ _
  have ho2 : Off (fun i => i = fb ∨ mapBlock mv i) w w2 := by rw [← hw2]; exact hno.alloc _
  have hpz : w.heap.size ≤ w1.heap.size := hb1.size
  have hf : Off (fun _ => False) w w2 := by rw [← hw2]; exact (off_of_below hb1).alloc _
  clear hw2 hno hb1 hmet
  generalize w1.heap.size = p at *
  have HO := hide ho2
  have HP := hide hp2
  have Hfb2 := hide (Hfb.out.off hf (fun h => h))
  have hm2 := Hm.out.off hf (fun _ _ h => h)
  have hF2 := hide hf
  clear ho2 hp2 hf
  have c4 : w2.cell? ⟨fb, 4, none⟩ = some mv := Hfb2.out.cell 4
  have c7 : w2.cell? ⟨fb, 7, none⟩ = some (.map none) := Hfb2.out.cell 7
  have hmax : name.size ≤ maxLen := by unfold maxLen; omega
  have hl1 := hm2.look_ok name hmax
  rw [Hnot.out] at hl1
  have hl2 := look_undef w2 name hmax
  have qT : ∀ (w : World) (r : Option Nat), (binOp .eql 79 (.map r) (.map none)).run Tryz.prog w = .ok (.bool r.isNone) w := fun w r => run_eql_map_nil w _ _ _ r Tryz.underlying79
  have hfl := Hfb2.out.lt
  have hfz := Hfb2.out.frozen 4
  rcases hm2 with ⟨rfl, rfl⟩ | ⟨mb, rfl, hown⟩
  · have hmm := @run_makeMap Tryz.prog
    go_upto_region 13 with fail
    go_name_world w3 hw3
    obtain ⟨mb, hmb0⟩ : ∃ mb, mb = w2.heap.size := ⟨_, rfl⟩
    have hsz : (w2.setCell ⟨fb, 4, none⟩ (.map (some w2.heap.size))).heap.size = w2.heap.size := by simp [World.setCell]
    have hown3 := World.ownsMap_made (w2.setCell ⟨fb, 4, none⟩ (.map (some w2.heap.size))) Tryz.prog 9 ptrElem
    have hfb3 : Blk w3 fb 82 (fsCells u parsed act (.map (some mb)) args) := by rw [← hw3, hmb0]; exact (Hfb2.out.set_ 4 _).alloc _
    have hp3 := (HP.out.far (p := ⟨fb, 4, none⟩) (HP.out.ne_ Hfb2.out (by decide)) (.map (some w2.heap.size))).alloc (.map #[] 0)
    have ho3 := (HO.out.setCell (p := ⟨fb, 4, none⟩) (fun _ => .inl rfl) (.map (some w2.heap.size))).alloc (.map #[] 0)
    have hmb : mapBlock (.map none) mb ∨ w.heap.size ≤ mb := .inr (by rw [hmb0]; exact hF2.out.size)
    rw [hsz, hw3, ← hmb0] at hown3
    rw [hw3] at hp3 ho3
    rw [← hmb0]
    clear hw3 hsz hmb0 hmm hfl hfz
    replace hown3 : w3.ownsMap Tryz.prog 9 ptrElem mb ([] : List (ByteArray × Nat)).length (mapD []) := hown3
    have HC := hide (fun (w4 : World) h4 g4 => var_close (w4 := w4) hpz hp3 hfb3 hown3 ho3 hmb h4 g4)
    have d4 : w3.cell? ⟨fb, 4, none⟩ = some (.map (some mb)) := hfb3.cell 4
    obtain ⟨w4, hrun, hown4, hg4⟩ := ownsMap_put hown3 hk name hmax p
    have HC4 := hide (HC.out w4 hown4 hg4)
    clear ho3 hp3 hfb3 hown3 hmb hown4 hg4 c4 c7 hl1 hl2 qT HC
    go_wp2_with fail
    go_end0
    exact HC4.out
  · have hmb : mapBlock (.map (some mb)) mb ∨ w.heap.size ≤ mb := .inl rfl
    have HC := hide (fun (w4 : World) h4 g4 => var_close (w4 := w4) hpz HP.out Hfb2.out hown HO.out hmb h4 g4)
    obtain ⟨w4, hrun, hown4, hg4⟩ := ownsMap_put hown hk name hmax p
    have HC4 := hide (HC.out w4 hown4 hg4)
    clear hmb hown4 hg4 HC hown
    go_wp2_with fail
    go_end0
    exact HC4.out
end Go.Proofs.YtpcmiaablanmeaaGreatDoor
