/- spec.Read.set: what it takes, and where. -/
import Derived.Test.YtpcmiaablanmeaaGreatDoorReads
import Derived.Test.YtpcmiaablanmeaaGreatDoorYes
import Derived.Test.YtpcmiaablanmeaaGreatDoorNumber
import Derived.Deep.RegionWith
import Derived.Deep.QuietTactic
import Derived.BigQuiet
namespace Go.Proofs.YtpcmiaablanmeaaGreatDoor
open Go.RowKit Go.Lib

def RSetPost (w : World) (B rb : Nat) (fl sn rs : Value) (st bad : Int) (ended : Bool) (cur : List FD) (ss : List ByteArray) (i : Nat) (f : FD) (v : ByteArray) (e : Ending) (w' : World) : Prop :=
  ∃ ok : Bool, e = .returned (.bool ok) ∧ Off (fun j => B ≤ j) w w' ∧ (ok = false → ∃ said', Blk w' rb 40 (readCells fl sn rs st bad said' ended)) ∧
    (ok = true → ∃ f' sn' ss' said', Takes f v f' ∧ SeenStep ss f.name ss' ∧ RS w' B rb fl sn' rs st bad said' ended (cur.set i f') ss')

/-- Behind the switch: the flag has its value; its name is still to be put in. -/
structure RMid (w w1 : World) (B rb g : Nat) (fl sn rs : Value) (st bad : Int) (ended : Bool) (cur : List FD) (ss : List ByteArray) (i : Nat) (f : FD) (v : ByteArray) (f' : FD) (said' : Bool) (cs' : Array Value) : Prop where
  takes : Takes f v f'
  blk : Blk w1 rb 40 (readCells fl sn rs st bad said' ended)
  row : Blk w1 g 36 cs'
  rowOf : RowOf cs' (cur.set i f')
  seen : w1.ownsRow B 9 1 sn ss.length (ss.map Value.string)
  name : w1.cell? ⟨g, i * 5, none⟩ = some (.string f.name)
  off : Off (fun j => B ≤ j) w w1

theorem own_drewN {w : World} {B : Nat} {e : TypeId} {v : Value} {n : Nat} {xs : List Value} (h : w.ownsRow B e 1 v n xs) (q : Nat) : (w.drewN q).ownsRow B e 1 v n xs := h

theorem own_far {w w' : World} {B b : Nat} {e t : TypeId} {v : Value} {n : Nat} {xs : List Value} {cs : Array Value} (h : w.ownsRow B e 1 v n xs) (hb : Blk w b t cs) (hne : t ≠ e) (ho : Off (fun i => i = b) w w') : w'.ownsRow B e 1 v n xs :=
  h.kept ⟨ho.os, ho.tape, ho.output, ho.size, fun i hi hn => ho.block i hi (fun e => hn (by rw [e]))⟩ (Classical.or_iff_not_imp_left.2 fun _ hh => by
    obtain ⟨_, cs', hb'⟩ := own_blk h hh
    exact hne ((by
      unfold Blk at hb hb'
      rw [hb] at hb'
      injection hb' with h1
      injection h1 with _ h2)))

theorem RMid.of {w : World} {B rb g : Nat} {fl sn rs : Value} {st bad : Int} {said ended : Bool} {cur : List FD} {ss : List ByteArray} {cs : Array Value} {i : Nat} {f : FD} {v : ByteArray} (hR : RS w B rb fl sn rs st bad said ended cur ss) (hcs : Blk w g 36 cs) (hrow : RowOf cs cur) (hf : cur[i]? = some f) (hg : B ≤ g)
    {f' : FD} {j0 : Nat} {v0 : Value} (hj : 0 < j0 ∧ j0 < 5) (hv : f'.val = f.val.setIfInBounds j0 v0) (ht : Takes f v f') (said' : Bool) {w1 : World} (hb1 : Blk w1 rb 40 (readCells fl sn rs st bad said' ended)) (ho : Off (fun j => j = rb) w w1) :
    RMid w (w1.setCell ⟨g, i * 5 + j0, none⟩ v0) B rb g fl sn rs st bad ended cur ss i f v f' said' (cs.setIfInBounds (i * 5 + j0) v0) := by
  have hne : rb ≠ g := hR.blk.ne_ hcs (by decide)
  have hcs1 : Blk w1 g 36 cs := hcs.off ho (fun e => hne e.symm)
  have hown1 := own_far hR.seen hR.blk (by decide) ho
  refine ⟨ht, hb1.far (p := ⟨g, i * 5 + j0, none⟩) hne _, hcs1.set_ _ _, hrow.set hf hj.2 hv, own_far hown1 hcs1 (by decide) ((Off.refl (fun j => j = g) w1).setCell (p := ⟨g, i * 5 + j0, none⟩) (fun _ => rfl) _), ?_, (ho.weaken (fun j _ e => by rw [e]; exact hR.rbB)).setCell (p := ⟨g, i * 5 + j0, none⟩) (fun _ => hg) _⟩
  rw [World.cell?_setCell_other _ _ _ _ (by intro e; injection e with _ e2 _; omega), hcs1.cell]
  exact hrow i f hf 0 _ rfl

theorem RMid.drewN {w w1 : World} {B rb g : Nat} {fl sn rs : Value} {st bad : Int} {ended : Bool} {cur : List FD} {ss : List ByteArray} {i : Nat} {f : FD} {v : ByteArray} {f' : FD} {said' : Bool} {cs' : Array Value} (h : RMid w w1 B rb g fl sn rs st bad ended cur ss i f v f' said' cs') (q : Nat) :
    RMid w (w1.drewN q) B rb g fl sn rs st bad ended cur ss i f v f' said' cs' :=
  ⟨h.takes, h.blk.drewN q, h.row.drewN q, h.rowOf, own_drewN h.seen q, h.name, h.off.drewN q⟩

theorem RMid.post {w w1 : World} {B rb g cap : Nat} {sn rs : Value} {st bad : Int} {ended : Bool} {cur : List FD} {ss : List ByteArray} {i : Nat} {f : FD} {v : ByteArray} {f' : FD} {said' : Bool} {cs' : Array Value} (h : RMid w w1 B rb g (.slice (some ⟨g, 0, none⟩) cur.length cap) sn rs st bad ended cur ss i f v f' said' cs')
    (hg : B ≤ g) (hrb : B ≤ rb) (hlc : cur.length ≤ cap) {w2 : World} {sn' : Value} {ss' : List ByteArray} (hs : SeenStep ss f.name ss') (hsort : Sorted ss') (hb : Blk w2 rb 40 (readCells (.slice (some ⟨g, 0, none⟩) cur.length cap) sn' rs st bad said' ended)) (hrow : Blk w2 g 36 cs') (hseen : w2.ownsRow B 9 1 sn' ss'.length (ss'.map Value.string)) (ho : Off (fun j => B ≤ j) w w2) :
    RSetPost w B rb (.slice (some ⟨g, 0, none⟩) cur.length cap) sn rs st bad ended cur ss i f v (.returned (.bool true)) w2 :=
  ⟨true, rfl, ho, by simp, fun _ => ⟨f', sn', ss', said', h.takes, hs, ⟨hb, .inr ⟨g, cap, cs', by rw [List.length_set], hg, hrow, h.rowOf, by rw [List.length_set]; exact hlc⟩, hseen, hsort, hrb⟩⟩⟩

set_option maxHeartbeats 2000000 in
set_option maxRecDepth 100000 in
theorem rset_any (B rb : Nat) (fl sn rs : Value) (st bad : Int) (said ended : Bool) (cur : List FD) (ss : List ByteArray) (i : Nat) (f : FD) (v : ByteArray) (w : World) (hR : RS w B rb fl sn rs st bad said ended cur ss) (hf : cur[i]? = some f) (hB : B ≤ w.heap.size) (hs : ss.length ≤ 1500) (hv : v.size ≤ 1048576) :
    Calls Tryz.prog 38 #[.pointer (some ⟨rb, 0, none⟩), .int .i64 i, .string v] w (RSetPost w B rb fl sn rs st bad ended cur ss i f v) := by
  have hil := (List.getElem?_eq_some_iff.1 hf).1
  rcases hR.fls with ⟨_, h0⟩ | ⟨g, cap, cs, rfl, hg, hcs, hrow, hlc⟩
  · rw [h0] at hil; simp at hil
  have c0 : w.cell? ⟨g, i * 5, none⟩ = some (.string f.name) := (hcs.cell _).trans (hrow i f hf 0 _ rfl)
  have c1 : w.cell? ⟨g, i * 5 + 1, none⟩ = some (.int .i64 f.kind) := (hcs.cell _).trans (hrow i f hf 1 _ rfl)
  have c2 : w.cell? ⟨g, i * 5 + 2, none⟩ = some (.bool f.on) := (hcs.cell _).trans (hrow i f hf 2 _ rfl)
  have c3 : w.cell? ⟨g, i * 5 + 3, none⟩ = some (.int .i64 f.num) := (hcs.cell _).trans (hrow i f hf 3 _ rfl)
  have c4 : w.cell? ⟨g, i * 5 + 4, none⟩ = some (.string f.text) := (hcs.cell _).trans (hrow i f hf 4 _ rfl)
  have z2 := hcs.frozen (i * 5 + 2)
  have z3 := hcs.frozen (i * 5 + 3)
  have z4 := hcs.frozen (i * 5 + 4)
  have r0 : w.cell? ⟨rb, 0, none⟩ = some (.slice (some ⟨g, 0, none⟩) cur.length cap) := hR.blk.cell 0
  have r5 : w.cell? ⟨rb, 5, none⟩ = some (.bool said) := hR.blk.cell 5
  have y5 := hR.blk.frozen 5
  have hne : rb ≠ g := hR.blk.ne_ hcs (by decide)
  have HR := hide hR
  have Hcs := hide hcs
  have Hrow := hide hrow
  have Hf := hide hf
  clear hR hcs hrow hf
  go_enter Tryz.func38, Tryz.ntmps38
  go_upto_block 0 with fail
  go_cut [8, 9, 10, 11, 12] from 26 to 66 (fun _ _ _ _ _ w1 => ∃ f' said' cs', RMid w w1 B rb g (.slice (some ⟨g, 0, none⟩) cur.length cap) sn rs st bad ended cur ss i f v f' said' cs')
  case first =>
    by_cases k0 : f.kind = 0
    · have q0 : (f.kind == 0) = true := by simp [k0]
      have HK := hide k0
      clear k0
      go_upto_region 6 with (go_at_call 53; refine (yes_any v _).mono ?_; rintro e w1 ⟨on, ok, rfl, hok, rfl⟩; have Hok := hide hok; clear hok)
      cases ok with
      | false =>
        go_wp2_with fail
        go_ret
        exact ⟨false, rfl, Off.refl _ _, fun _ => ⟨_, HR.out.blk⟩, by simp⟩
      | true =>
        go_wp2_with fail
        go_meet
        case rel => exact ⟨_, _, _, RMid.of HR.out Hcs.out Hrow.out Hf.out hg (f' := { f with on := on }) (j0 := 2) ⟨by omega, by omega⟩ rfl (.inl ⟨HK.out, on, Hok.out trivial, rfl⟩) said HR.out.blk (Off.refl _ _)⟩
    · have q0 : (f.kind == 0) = false := by simpa using k0
      by_cases k1 : f.kind = 1
      · have q1 : (f.kind == 1) = true := by simp [k1]
        have HK := hide k1
        clear k0 k1
        go_upto_region 11 with (go_at_call 54; refine (number_any v _ (by omega)).mono ?_; rintro e w1 ⟨n, ok, sd, rfl, hok, rfl⟩; have Hok := hide hok; clear hok)
        cases said with
        | true =>
          have hb5 := hide (HR.out.blk.set_ 5 (.bool sd))
          have ho5 := hide ((Off.refl (fun j => j = rb) w).setCell (p := ⟨rb, 5, none⟩) (fun _ => rfl) (.bool sd))
          cases ok with
          | false =>
            go_wp2_with fail
            go_ret
            exact ⟨false, rfl, ho5.out.weaken (fun j _ e => by rw [e]; exact HR.out.rbB), fun _ => ⟨sd, hb5.out⟩, by simp⟩
          | true =>
            go_wp2_with fail
            go_meet
            case rel => exact ⟨_, _, _, RMid.of HR.out Hcs.out Hrow.out Hf.out hg (f' := { f with num := n }) (j0 := 3) ⟨by omega, by omega⟩ rfl (.inr (.inl ⟨HK.out, n, (Hok.out trivial).1, (Hok.out trivial).2.1, (Hok.out trivial).2.2, rfl⟩)) sd hb5.out ho5.out⟩
        | false =>
          have hb5 := hide (HR.out.blk.set_ 5 (.bool false))
          have ho5 := hide ((Off.refl (fun j => j = rb) w).setCell (p := ⟨rb, 5, none⟩) (fun _ => rfl) (.bool false))
          cases ok with
          | false =>
            go_wp2_with fail
            go_ret
            exact ⟨false, rfl, ho5.out.weaken (fun j _ e => by rw [e]; exact HR.out.rbB), fun _ => ⟨false, hb5.out⟩, by simp⟩
          | true =>
            go_wp2_with fail
            go_meet
            case rel => exact ⟨_, _, _, RMid.of HR.out Hcs.out Hrow.out Hf.out hg (f' := { f with num := n }) (j0 := 3) ⟨by omega, by omega⟩ rfl (.inr (.inl ⟨HK.out, n, (Hok.out trivial).1, (Hok.out trivial).2.1, (Hok.out trivial).2.2, rfl⟩)) false hb5.out ho5.out⟩
      · have q1 : (f.kind == 1) = false := by simpa using k1
        have HK := hide k0
        have HK1 := hide k1
        clear k0 k1
        go_wp2_with fail
        go_meet
        case rel => exact ⟨_, _, _, RMid.of HR.out Hcs.out Hrow.out Hf.out hg (f' := { f with text := v }) (j0 := 4) ⟨by omega, by omega⟩ rfl (.inr (.inr ⟨HK.out, HK1.out, rfl⟩)) said HR.out.blk (Off.refl _ _)⟩
  case rest =>
    obtain ⟨f', said', cs', hM⟩ := hcut
    have HM := hide hM
    have r1 : wc.cell? ⟨rb, 1, none⟩ = some sn := hM.blk.cell 1
    have n0 : wc.cell? ⟨g, i * 5, none⟩ = some (.string f.name) := hM.name
    have y1 := hM.blk.frozen 1
    have hseen := hide hM.seen
    obtain ⟨k, hP⟩ := place_ex f.name ss HR.out.sorted
    have hk := hP.1
    have HP := hide hP
    have HS := hide HR.out.sorted
    clear hM hP c0 c1 c2 c3 c4 z2 z3 z4 r0 r5 y5 Hcs Hrow
    go_upto_region 15 with fail
    go_quiet ((go_at_call 55; exact Calls.quiet_of (search_own sn ss f.name B _ (own_drewN hseen.out _) HS.out (by omega) k HP.out)))
    have HM2 := hide (HM.out.drewN nq)
    have r2 : (wc.drewN nq).cell? ⟨rb, 1, none⟩ = some sn := r1
    have n2 : (wc.drewN nq).cell? ⟨g, i * 5, none⟩ = some (.string f.name) := n0
    have y2 : (wc.drewN nq).frozen? ⟨rb, 1, none⟩ = false := y1
    clear r1 n0 y1 hseen HM
    generalize wc.drewN nq = w2 at *
    cases hb : hasT ss f.name with
    | true =>
      have Hm := hide ((hasT_iff ss f.name).1 hb)
      go_wp2_with fail
      go_ret
      exact HM2.out.post hg HR.out.rbB hlc (.inl ⟨Hm.out, rfl⟩) HS.out HM2.out.blk HM2.out.row HM2.out.seen HM2.out.off
    | false =>
      have Hm : Hid (f.name ∉ ss) := fun h => by rw [(hasT_iff ss f.name).2 h] at hb; cases hb
      have hB2 : B ≤ w2.heap.size := Nat.le_trans hB HM2.out.off.size
      have hrl := HM2.out.blk.lt
      have hgl := HM2.out.row.lt
      have nrb : ¬ sn.ownBlock = some rb := fun e => by obtain ⟨_, c, hc⟩ := own_blk HM2.out.seen e; exact absurd rfl (HM2.out.blk.ne_ hc (by decide))
      have ng : ¬ sn.ownBlock = some g := fun e => by obtain ⟨_, c, hc⟩ := own_blk HM2.out.seen e; exact absurd rfl (HM2.out.row.ne_ hc (by decide))
      go_upto_region 17 with fail
      go_region_with (first
        | (go_at_call 56; refine (insert_own sn ss k f.name w2.heap.size B _ ((HM2.out.seen.drew).alloc _) (Blk.new w2.drew _ _) (fun i hi e => by have := (HM2.out.seen.lt i hi).2; omega) (by simp; omega) hk (by omega)).mono ?_; rintro e w5 ⟨sn', rfl, hown', ho', g', c', rfl⟩; have hb5 := hide (((HM2.out.blk.drew).alloc (.cells #[.string f.name] 9)).off ho' nrb); have hg5 := hide (((HM2.out.row.drew).alloc (.cells #[.string f.name] 9)).off ho' ng); have r5 : w5.cell? ⟨rb, 1, none⟩ = some sn := hb5.out.cell 1; have y5 := hb5.out.frozen 1; have ho5 := hide ((((Off.refl (fun j => B ≤ j) w2).drew).alloc (.cells #[.string f.name] 9)).trans ho' (fun j _ e => (own_blk HM2.out.seen e).1)); have hw5 := hide hown'; clear hown' ho')
        | go_in)
      all_goals
        go_wp2_with fail
        go_ret
        have hrow6 := hg5.out.far (p := ⟨rb, 1, none⟩) (fun e => hne e.symm) (.slice (some ⟨g', 0, none⟩) (ss.length + 1) c')
        have hl : (ss.take k ++ f.name :: ss.drop k).length = ss.length + 1 := (ins_perm ss f.name k).length_eq
        have hseen6 := own_far hw5.out hb5.out (by decide) ((Off.refl (fun j => j = rb) w5).setCell (p := ⟨rb, 1, none⟩) (fun _ => rfl) (.slice (some ⟨g', 0, none⟩) (ss.length + 1) c'))
        rw [← hl] at hseen6
        exact HM2.out.post hg HR.out.rbB hlc (.inr ⟨Hm.out, ins_perm ss f.name k⟩) (HP.out.sorted HS.out Hm.out) (hb5.out.set_ 1 _) hrow6 (by rw [← hl]; exact hseen6) ((HM2.out.off.trans ho5.out (fun j _ h => h)).setCell (p := ⟨rb, 1, none⟩) (fun _ => HR.out.rbB) _)
end Go.Proofs.YtpcmiaablanmeaaGreatDoor
