/- VisitAll and Visit, with a closure that appends each flag's name. -/
import Derived.Test.YtpcmiaablanmeaaGreatDoorSortW
import Derived.Test.YtpcmiaablanmeaaGreatDoorSetW
import Derived.Deep.RegionLaw
import Derived.Laws.Pointers
import Derived.OwnWalk
import Derived.StillTactics
namespace Go.Proofs.YtpcmiaablanmeaaGreatDoor
open Go.RowKit Go.Lib Go.Sort Go.Maps

theorem Tryz.infoString : (Tryz.prog.info? 9).map (fun i => (i.zero, i.size, i.bytes)) = some (some (.string ⟨#[]⟩), 1, 16) := by kernel_rfl

/-- A closure that appends a flag's name to the list in cell o of block ob. -/
def Appends (g ob o : Nat) (T : TypeId) : Prop := ∀ (W : World) (B b : Nat) (cs : Array Value) (v : Value) (n : Nat) (xs : List Value) (name : ByteArray), Blk W ob T cs → cs[o]? = some v → W.ownsRow B 9 1 v n xs → n < 2000 → B ≤ W.heap.size → ob < B → b < B →
  W.cell? ⟨b, 0, none⟩ = some (.string name) →
  Calls Tryz.prog g #[.pointer (some ⟨b, 0, none⟩), .pointer (some ⟨ob, 0, none⟩)] W fun e w' => e = .returned (.tuple #[]) ∧ ∃ v', Blk w' ob T (cs.setIfInBounds o v') ∧ w'.ownsRow B 9 1 v' (n + 1) (xs ++ [.string name]) ∧ Off (fun i => i = ob ∨ B ≤ i) W w'

theorem own_keep {w w' : World} {B b : Nat} {e : TypeId} {v : Value} {n : Nat} {xs : List Value} (h : w.ownsRow B e 1 v n xs) (ho : Off (fun i => i = b) w w') (hb : b < B) : w'.ownsRow B e 1 v n xs :=
  h.kept (grown_of_off1 ho) (Classical.or_iff_not_imp_left.2 fun _ => by
    intro hh
    exact absurd (own_blk h hh).1 (by omega))

theorem far_own {w : World} {B b : Nat} {e : TypeId} {v : Value} {n : Nat} {xs : List Value} (h : w.ownsRow B e 1 v n xs) (hb : b < B) : v.ownBlock ≠ some b := fun hi => by
  have := (own_blk h hi).1
  omega

set_option maxHeartbeats 1000000 in
set_option maxRecDepth 100000 in
theorem answer_appends (ob : Nat) : Appends 50 ob 1 31 := by
  intro W B b cs v n xs name hob hv hown hn hB hlt hbB hc
  obtain ⟨i0, hi0, hz00, hz01, hz02⟩ := info_parts Tryz.infoString
  have s0 : W.cell? ⟨ob, 1, none⟩ = some v := (hob.cell 1).trans hv
  have hobl := hob.lt
  have hbl : b < W.heap.size := by omega
  have ao := far_own hown hlt
  have ab := far_own hown hbB
  have Hob := hide hob
  have Hv := hide hv
  clear hob hv
  go_enter Tryz.func50, Tryz.ntmps50
  go_wp2_with fail
  go_region_law (first | 
    ((refine step_append_lies _ (by rfl) _ _ _ (by rfl) B 9 i0 _ 1 16 Tryz.underlying26 hi0 hz00 hz01 hz02 rfl (by omega) v n xs (by rfl) ((hown.alloc _).drew)
        ⟨W.heap.size, 0, none⟩ 1 1 [.string name] (by rfl) (by rfl) (World.news_of_block (cs := #[.string name]) (t := 9) (fr := (0, 0)) (heap_alloc_new W _)) (by simp [Value.oneCell'])
        (by omega) (by unfold maxLen; omega) (by omega) (by simp; omega) (W.heap.size + 1) (by simp) ?_; intro gg cap w1 hown1 hgrow hat hlt1; have hB1 := hide (((Hob.out.alloc (.cells #[.string name] 9)).drew).grown hgrow (Ne.symm ao)); have hq1 := (hB1.out.cell 1).trans Hv.out; have hf1 := hB1.out.frozen 1; have hO := hide ((((Off.refl (fun i => v.ownBlock = some i) W).alloc (.cells #[.string name] 9)).drew).trans (off_of_grown (S := fun i => v.ownBlock = some i) hgrow (fun _ _ h => h)) (fun _ _ h => h)); have hc1 := (hO.out.cell (p := ⟨b, 0, none⟩) hbl ab).trans hc)) | go_in)
  all_goals
    go_end0
    exact ⟨rfl, _, hB1.out.set_ 1 _, own_keep hown1 ((Off.refl (fun i => i = ob) w1).setCell (p := ⟨ob, 1, none⟩) (fun _ => rfl) _) hlt, (hO.out.weaken (fun i _ h => .inr (own_blk hown h).1)).setCell (p := ⟨ob, 1, none⟩) (fun _ => .inl rfl) _⟩

/-- What the visit leaves: the names, in order. -/
def VisitPost (kps : List (ByteArray × Nat)) (ob o : Nat) (T : TypeId) (cs : Array Value) (w : World) (e : Ending) (w' : World) : Prop :=
  e = .returned (.tuple #[]) ∧ ∃ (v' : Value) (ks : List (ByteArray × Nat)), ks.Perm kps ∧ ByName ks ∧ Blk w' ob T (cs.setIfInBounds o v') ∧ w'.ownsRow w.heap.size 9 1 v' ks.length (ks.map fun p => Value.string p.1) ∧ Off (fun i => i = ob) w w'

theorem own_weak {w : World} {B B' : Nat} {e : TypeId} {v : Value} {n : Nat} {xs : List Value} (h : w.ownsRow B e 1 v n xs) (hB : B' ≤ B) : w.ownsRow B' e 1 v n xs := by
  rcases h with ⟨h1, h | ⟨g, cap, cur, hv, hb, rest⟩⟩
  · exact ⟨h1, .inl h⟩
  · exact ⟨h1, .inr ⟨g, cap, cur, hv, Nat.le_trans hB hb, rest⟩⟩

theorem lt_of_cell {w : World} {a : Addr} {v : Value} (h : w.cell? a = some v) : a.block < w.heap.size := by
  unfold World.cell? at h
  split at h
  · rename_i hb; exact (Array.getElem?_eq_some_iff.1 hb).1
  · cases h

set_option maxHeartbeats 1000000 in
set_option maxRecDepth 100000 in
theorem visitVisit_any (ob : Nat) (fb : Nat) (u : Value) (parsed : Bool) (act mv args : Value) (kps : List (ByteArray × Nat)) (cs : Array Value) (w : World) (hfb : Blk w fb 82 (fsCells u parsed act mv args))
    (hm : MapIs w act kps) (hd : (kps.map (·.1)).Nodup) (hk : kps.length < 2000) (hname : ∀ p ∈ kps, w.cell? ⟨p.2, 0, none⟩ = some (.string p.1)) (hob : Blk w ob 31 cs) (hnil : cs[1]? = some (.slice none 0 0)) (hne : ∀ p ∈ kps, p.2 ≠ ob) :
    Calls Tryz.prog 49 #[.pointer (some ⟨fb, 0, none⟩), .func (.func 50) #[] #[.pointer (some ⟨ob, 0, none⟩)]] w (VisitPost kps ob 1 31 cs w) := by
  have hS := hide (sortFlags_any act kps w hm hd hk hname)
  have f4 : w.cell? ⟨fb, 3, none⟩ = some act := hfb.cell 3
  have Hob := hide hob
  have Hname := hide hname
  have Hne := hide hne
  have Hnil := hide hnil
  clear hm hfb hob hname hnil hne
  go_enter Tryz.func49, Tryz.ntmps49
  go_wp2_with (first | (go_at_call 64; refine hS.out.mono ?_; rintro e w2 ⟨A, c, ks, rfl, hp, hby, hcell, ho⟩; have Hcell := hide hcell; have Ho := hide ho; have Hp := hide hp; have Hby := hide hby; clear hcell ho hp hby) | go_in)
  have ho2 := Ho.out.size
  have hb2 := (Hob.out.off Ho.out (fun h => h))
  have hobl := Hob.out.lt
  have Hob2 := hide hb2
  have hkl : ks.length < 2000 := by rw [Hp.out.length_eq]; exact hk
  clear f4 hS hb2
  go_loopw [12] (fun i wr => ∃ (k : Nat) (v : Value), k ≤ ks.length ∧ i = .int .i64 k ∧ Blk wr ob 31 (cs.setIfInBounds 1 v) ∧ wr.ownsRow w2.heap.size 9 1 v k ((ks.take k).map fun p => Value.string p.1) ∧ Off (fun i => i = ob) w2 wr) (fun i _ => ks.length - (intOf i).toNat)
  case atStart =>
    refine ⟨0, .slice none 0 0, Nat.zero_le _, rfl, ?_, World.ownsRow_nil _ _ _ _, Off.refl _ _⟩
    have e : cs.setIfInBounds 1 (.slice none 0 0) = cs := by
      apply Array.ext_getElem?
      intro i
      rw [Array.getElem?_setIfInBounds]
      split
      · rename_i h; subst h
        rw [Hnil.out]
        split
        · rfl
        · rename_i h; rw [Array.getElem?_eq_none (by omega)] at Hnil; cases Hnil.out
      · rfl
    rw [e]
    exact Hob2.out
  case round =>
    obtain ⟨k, v, hkn, rfl, hb, hown, ho⟩ := hrel
    have hsz := ho.size
    by_cases hlt : k < ks.length
    · have hkp : ks[k]? = some ks[k] := List.getElem?_eq_getElem hlt
      obtain ⟨b, rfl, hbw, hcb⟩ := Hcell.out k _ hkp
      have hin := Hp.out.subset (List.getElem_mem hlt)
      have hpl := Hname.out _ hin
      have hp2 : ks[k].2 < w.heap.size := lt_of_cell hpl
      have hb2 : b < w2.heap.size := lt_of_cell hcb
      have hcr : wr.cell? ⟨b, k, none⟩ = some (.pointer (some ⟨ks[k].2, 0, none⟩)) := (ho.cell (p := ⟨b, k, none⟩) hb2 (by simp; omega)).trans hcb
      have hnr : wr.cell? ⟨ks[k].2, 0, none⟩ = some (.string ks[k].1) := (ho.cell (p := ⟨ks[k].2, 0, none⟩) (by simp; omega) (Hne.out _ hin)).trans ((Ho.out.cell (p := ⟨ks[k].2, 0, none⟩) hp2 (fun h => h)).trans hpl)
      have hC := hide (answer_appends ob wr w2.heap.size ks[k].2 (cs.setIfInBounds 1 v) v k _ ks[k].1 hb (by rw [Array.getElem?_setIfInBounds_self_of_lt (by rcases Nat.lt_or_ge 1 cs.size with h | h; exact h; rw [Array.getElem?_eq_none h] at Hnil; cases Hnil.out)]) hown (by omega) hsz (by omega) (by omega) hnr)
      have HO := hide ho
      clear hb hown ho hpl hnr hcb
      go_wp2_with (first | (go_at_call 50; refine hC.out.mono ?_; rintro e w4 ⟨rfl, v', hb', hown', ho'⟩; have HB := hide hb'; have HW := hide hown'; have HO2 := hide (HO.out.trans ho' (fun i hi e => by rcases e with e | e; exact e; omega)); clear hb' hown' ho') | go_in)
      go_roundw
      case rel =>
        refine ⟨k + 1, v', by omega, by go_num, ?_, ?_, HO2.out⟩
        · have h := HB.out
          rw [Array.setIfInBounds_setIfInBounds] at h
          exact h
        · have h := HW.out
          rw [List.take_add_one, hkp, List.map_append]
          exact h
      case measure => simp [intOf]; omega
    · have hke : k = ks.length := by omega
      subst hke
      have Hown := hide hown
      go_wp2_with fail
      go_end0
      refine ⟨rfl, v, ks, Hp.out, Hby.out, hb, ?_, ?_⟩
      · have h := own_weak Hown.out ho2
        rwa [List.take_length] at h
      · exact (Ho.out.weaken (fun i _ h => h.elim)).trans ho (fun i _ h => h)
end Go.Proofs.YtpcmiaablanmeaaGreatDoor
