/- impl.define makes a set of flags. -/
import Derived.Test.YtpcmiaablanmeaaGreatDoorSetW
import Derived.Deep.QuietTactic
import Derived.BigQuiet
import Derived.Laws.EntriesVeiled
import Derived.Deep.CutBlock
import Derived.Deep.DeepCutAuto
namespace Go.Proofs.YtpcmiaablanmeaaGreatDoor
open Go.RowKit Go.Maps

set_option maxHeartbeats 400000 in
theorem newFlagSet_any (w : World) : Calls Tryz.prog 43 #[.string ⟨#[]⟩, .int .i64 0] w fun e w' => e = .returned (.pointer (some ⟨w.heap.size, 0, none⟩)) ∧ w.alloc (.cells #[.nilFunc, .string ⟨#[]⟩, .bool false, .map none, .map none, .slice none 0 0, .int .i64 0, .map none] 82) = w' := by
  go_enter Tryz.func43, Tryz.ntmps43
  go_wp2
  go_ret
  exact ⟨rfl, rfl⟩

/-- What impl.define leaves: a set with just these flags, none of them set. -/
def DefPost (fs : List FD) (sl : Value) (w : World) (e : Ending) (w' : World) : Prop :=
  ∃ (sb fb : Nat) (es : List Ent) (mv vb vn vt : Value), e = .returned (.pointer (some ⟨sb, 0, none⟩)) ∧ es.map (·.f) = fs ∧
    SetW w' w.heap.size sb fb es es es es (.func (.func 44) #[] #[]) false (.map none) mv (.slice none 0 0) sl vb vn vt ∧ Below w.heap.size w w'

set_option maxHeartbeats 4000000 in
set_option maxRecDepth 100000 in
theorem define_any (A : Option Addr) (c : Nat) (fs : List FD) (w : World) (hin : FlagsIn w w.heap.size A fs) (hok : ∀ f ∈ fs, f.Ok) (hD : DefinedP fs) (ht : TabOk w) :
    Calls Tryz.prog 32 #[.slice A fs.length c] w (DefPost fs (.slice A fs.length c) w) := by
  have HD := hide hD
  have Ht := hide ht
  have hl := hD.len
  clear hD ht
  go_enter Tryz.func32, Tryz.ntmps32
  go_wp2_with (go_at_call 43; refine (newFlagSet_any _).mono ?_; rintro e w' ⟨rfl, rfl⟩)
  go_loopw [21] (fun i wr => ∃ (k : Nat) (es : List Ent) (mv vb vn vt : Value), k ≤ fs.length ∧ i = .int .i64 k ∧ es.map (·.f) = fs.take k ∧ SetW wr w.heap.size (w.heap.size + 1) w.heap.size es es es es (.func (.func 44) #[] #[]) false (.map none) mv (.slice none 0 0) (.slice A fs.length c) vb vn vt ∧ Below w.heap.size w wr) (fun i _ => fs.length - (intOf i).toNat)
  case atStart =>
    refine ⟨0, [], .map none, .slice none 0 0, .slice none 0 0, .slice none 0 0, Nat.zero_le _, rfl, rfl, ?_, ((Below.refl _ _).alloc (Nat.le_refl _) _).alloc (by simp) _⟩
    have hz : ∀ o : Obj, (w.alloc o).heap.size = w.heap.size + 1 := fun o => by simp
    refine ⟨?_, (Blk.new w _ _).alloc _, .inl ⟨rfl, rfl⟩, by simp, by simp, World.ownsRow_nil _ _ _ _, World.ownsRow_nil _ _ _ _, World.ownsRow_nil _ _ _ _, by omega, by omega, fun i hi => hi.elim, by simp, List.Pairwise.nil⟩
    have := Blk.new (w.alloc (.cells #[.func (.func 44) #[] #[], .string ⟨#[]⟩, .bool false, .map none, .map none, .slice none 0 0, .int .i64 0, .map none] 82)) 66 #[.pointer (some ⟨w.heap.size, 0, none⟩), .slice A fs.length c, .slice none 0 0, .slice none 0 0, .slice none 0 0]
    rw [hz] at this
    exact this
  case round =>
    obtain ⟨k, es, mv, vb, vn, vt, hk, rfl, hes, hS, hb⟩ := hrel
    by_cases hlt : k < fs.length
    · obtain ⟨b, off, rfl, hB, hc⟩ := hin k hlt
      have hf : fs[k]? = some fs[k] := List.getElem?_eq_getElem hlt
      obtain ⟨c0, c1, c2, c3, c4⟩ := (hc k _ hf).below hb hB
      have hsz := hb.size
      clear hc hin
      go_upto_block 2 with fail
      go_name_world w1 hw1
      have hx1 : Blk w1 wr.heap.size 36 #[.string fs[k].name, .int .i64 fs[k].kind, .bool fs[k].on, .int .i64 fs[k].num, .string fs[k].text] := by rw [← hw1]; exact Blk.new _ _ _
      have hS1 : Hid (SetW w1 w.heap.size (w.heap.size + 1) w.heap.size es es es es (.func (.func 44) #[] #[]) false (.map none) mv (.slice none 0 0) (.slice (some ⟨b, off, none⟩) fs.length c) vb vn vt) := by rw [← hw1]; exact hide (hS.keep ((Off.refl _ _).alloc _))
      have hb1 : Below w.heap.size w w1 := by rw [← hw1]; exact hb.alloc hsz _
      clear hw1 hS hb c0 c1 c2 c3 c4
      go_cut [6, 7, 8] (fun c6 c7 c8 w3 => ∃ (e : Ent) (mv' : Value), e.f = fs[k] ∧ c6 = .pointer (e.pa 0) ∧ c7 = .pointer (e.pa 1) ∧ c8 = .pointer (e.pa 2) ∧ SetW w3 w.heap.size (w.heap.size + 1) w.heap.size (es ++ [e]) es es es (.func (.func 44) #[] #[]) false (.map none) mv' (.slice none 0 0) (.slice (some ⟨b, off, none⟩) fs.length c) vb vn vt ∧ Below w.heap.size w w3)
      case rest =>
        obtain ⟨e, mv2, he, rfl, rfl, rfl, hS2, hb2⟩ := hcut
        have HS2 := hide hS2
        have Hb2 := hide hb2
        have hlen : es.length = k := by have := congrArg List.length hes; simp at this; omega
        have hlen' : es.length < 100 := by omega
        have Hlen := hide hlen
        clear hS2 hb2 hS1 hb1 hx1 hlen
        obtain ⟨i0, hi0, hz00, hz01, hz02⟩ := info_parts Tryz.infoBool
        have s0 : wc.cell? ⟨w.heap.size + 1, 2, none⟩ = some vb := HS2.out.set.cell 2
        have hlt0 := HS2.out.set.lt
        have hbz0 := Hb2.out.size
        go_upto_region 16 with (at_builtin; refine wpList_append_own _ rfl _ _ 62 rfl w.heap.size 83 i0 (.pointer none) 1 8 Tryz.underlying62 hi0 hz00 hz01 hz02 rfl (by decide) vb es.length (es.map fun e => Value.pointer (e.pa 0)) rfl (HS2.out.rowB.alloc _) ⟨wc.heap.size, 0, none⟩ 1 1 [.pointer (e.pa 0)] rfl rfl (cell_one_new _ _ _) (fun u hu => by simp at hu; subst hu; rfl) (by unfold maxLen; omega) (by omega) (by simp; omega) ?_; intro v0' x0 hown0 hgr0 hni; clear hni; obtain ⟨g0, cap0, rfl⟩ := own_shape hown0 (by omega); obtain ⟨hA0, hcl0, hfr0, hsl0⟩ := HS2.out.app_bools hown0 hgr0; have HA0 := hide hA0; have HB0 := hide (((Hb2.out.alloc Hb2.out.size (.cells #[.pointer (e.pa 0)] 83)).grown hgr0 (by simp; omega) (fun j hj => (own_blk HS2.out.rowB hj).1)).setCell (p := ⟨w.heap.size + 1, 2, none⟩) (by simp) (.slice (some ⟨g0, 0, none⟩) (es.length + 1) cap0)); clear hown0 hgr0 hA0)
        go_name_world y0 hy0
        rw [hy0] at HA0 HB0
        clear hy0 hi0 hz00 hz01 hz02 s0 hlt0 hbz0 hcl0 hfr0 hsl0
        obtain ⟨i1, hi1, hz10, hz11, hz12⟩ := info_parts Tryz.infoInt
        have s1 : y0.cell? ⟨w.heap.size + 1, 3, none⟩ = some vn := HA0.out.set.cell 3
        have hlt1 := HA0.out.set.lt
        have hbz1 := HB0.out.size
        go_upto_region 17 with (at_builtin; refine wpList_append_own _ rfl _ _ 63 rfl w.heap.size 84 i1 (.pointer none) 1 8 Tryz.underlying63 hi1 hz10 hz11 hz12 rfl (by decide) vn es.length (es.map fun e => Value.pointer (e.pa 1)) rfl (HA0.out.rowN.alloc _) ⟨y0.heap.size, 0, none⟩ 1 1 [.pointer (e.pa 1)] rfl rfl (cell_one_new _ _ _) (fun u hu => by simp at hu; subst hu; rfl) (by unfold maxLen; omega) (by omega) (by simp; omega) ?_; intro v1' x1 hown1 hgr1 hni; clear hni; obtain ⟨g1, cap1, rfl⟩ := own_shape hown1 (by omega); obtain ⟨hA1, hcl1, hfr1, hsl1⟩ := HA0.out.app_numbers hown1 hgr1; have HA1 := hide hA1; have HB1 := hide (((HB0.out.alloc HB0.out.size (.cells #[.pointer (e.pa 1)] 84)).grown hgr1 (by simp; omega) (fun j hj => (own_blk HA0.out.rowN hj).1)).setCell (p := ⟨w.heap.size + 1, 3, none⟩) (by simp) (.slice (some ⟨g1, 0, none⟩) (es.length + 1) cap1)); clear hown1 hgr1 hA1)
        go_name_world y1 hy1
        rw [hy1] at HA1 HB1
        clear hy1 hi1 hz10 hz11 hz12 s1 hlt1 hbz1 hcl1 hfr1 hsl1
        obtain ⟨i2, hi2, hz20, hz21, hz22⟩ := info_parts Tryz.infoStr
        have s2 : y1.cell? ⟨w.heap.size + 1, 4, none⟩ = some vt := HA1.out.set.cell 4
        have hlt2 := HA1.out.set.lt
        have hbz2 := HB1.out.size
        go_upto_region 18 with (at_builtin; refine wpList_append_own _ rfl _ _ 64 rfl w.heap.size 85 i2 (.pointer none) 1 8 Tryz.underlying64 hi2 hz20 hz21 hz22 rfl (by decide) vt es.length (es.map fun e => Value.pointer (e.pa 2)) rfl (HA1.out.rowT.alloc _) ⟨y1.heap.size, 0, none⟩ 1 1 [.pointer (e.pa 2)] rfl rfl (cell_one_new _ _ _) (fun u hu => by simp at hu; subst hu; rfl) (by unfold maxLen; omega) (by omega) (by simp; omega) ?_; intro v2' x2 hown2 hgr2 hni; clear hni; obtain ⟨g2, cap2, rfl⟩ := own_shape hown2 (by omega); obtain ⟨hA2, hcl2, hfr2, hsl2⟩ := HA1.out.app_texts hown2 hgr2; have HA2 := hide hA2; have HB2 := hide (((HB1.out.alloc HB1.out.size (.cells #[.pointer (e.pa 2)] 85)).grown hgr2 (by simp; omega) (fun j hj => (own_blk HA1.out.rowT hj).1)).setCell (p := ⟨w.heap.size + 1, 4, none⟩) (by simp) (.slice (some ⟨g2, 0, none⟩) (es.length + 1) cap2)); clear hown2 hgr2 hA2)
        go_name_world y2 hy2
        rw [hy2] at HA2 HB2
        clear hy2 hi2 hz20 hz21 hz22 s2 hlt2 hbz2 hcl2 hfr2 hsl2
        go_wp2_with fail
        go_roundw
        case rel =>
          have hS3 := HA2.out
          have he3 : (es ++ [e]).map (·.f) = fs.take (k + 1) := by rw [List.map_append, hes, List.take_add_one, hf]; simp [he]
          exact ⟨k + 1, es ++ [e], mv2, _, _, _, by omega, by go_num, he3, hS3, HB2.out⟩
        case measure => simp [intOf]; omega
      case first =>
        have HS2 : Hid (SetW w1.drew w.heap.size (w.heap.size + 1) w.heap.size es es es es (.func (.func 44) #[] #[]) false (.map none) mv (.slice none 0 0) (.slice (some ⟨b, off, none⟩) fs.length c) vb vn vt) := hide (hS1.out.keep ((Off.refl _ _).drew))
        have Hb2 : Hid (Below w.heap.size w w1.drew) := hide hb1.drew
        have hkp : (kpsOf es).length < 2000 := by have := congrArg List.length hes; simp [kpsOf] at this ⊢; omega
        have hfine : Hid (fs[k].Fine) := hide (HD.out.fine _ (List.getElem_mem hlt))
        have h0 := hfine.out.nameNe
        have h1 := hfine.out.nameLen
        have hs := hfine.out.nameSign
        have Hdash := hide (hfine.out.nameDash h0)
        have Hnot := hide (kpsOf_none es fs k _ hes hf HD.out)
        have hH1 := hide hb1
        have hbs := hb1.size
        clear hb1
        have Hok := hide (hok _ (List.getElem_mem hlt))
        by_cases hk0 : fs[k].kind = 0
        · have q0 : (fs[k].kind == 0) = true := by simp [hk0]
          have HK := hide hk0
          clear hk0
          have e0 : w1.cell? ⟨wr.heap.size, 0, none⟩ = some (.string fs[k].name) := hx1.cell 0
          have e2 : w1.cell? ⟨wr.heap.size, 2, none⟩ = some (.bool fs[k].on) := hx1.cell 2
          have es0 : w1.cell? ⟨w.heap.size + 1, 0, none⟩ = some (.pointer (some ⟨w.heap.size, 0, none⟩)) := hS1.out.set.cell 0
          clear hx1
          go_upto_region 12 with fail
          go_still_tail 8, (by kernel_rfl)
          change wpList _ _ _ _ _ w1.drew
          clear e0 e2 es0
          generalize w1.drew = w2 at *
          go_wp2_with (go_at_call 45; refine (addBool_any w.heap.size _ _ _ _ _ (kpsOf es) fs[k].name fs[k].on _ HS2.out.fset HS2.out.map hkp h0 h1 Hdash.out hs Hnot.out).mono ?_; rintro e w3 ⟨v, p, mv', d, rfl, hA⟩; have HA := hide hA; clear hA)
          go_meet
          case rel =>
            have ha := HA.out
            obtain ⟨e, he, hr, mv2, hSn⟩ := HS2.out.enter Hb2.out.size (T := 4) (Tp := 139) (val := .bool fs[k].on) (r := .pointer (some ⟨v, 0, none⟩)) (name := fs[k].name) ⟨v, p, mv', d, rfl, ha⟩ fs[k] rfl (by simp [FD.varT, HK.out]) (by simp [FD.ifT, HK.out]) (by simp [FD.cur, HK.out])
            have hkd : e.f.kind = 0 := by rw [he]; exact HK.out
            exact ⟨e, mv2, he, hr.trans (Ent.ptr_same hkd).symm, (Ent.ptr_other (by rw [hkd]; decide)).symm, (Ent.ptr_other (by rw [hkd]; decide)).symm, hSn, addBelow HS2.out Hb2.out Hb2.out.size ha.2.2.2.2.2.2.2⟩
        · have q0 : (fs[k].kind == 0) = false := by simp [hk0]
          have HK0 := hide hk0
          clear hk0
          by_cases hk1 : fs[k].kind = 1
          · have q1 : (fs[k].kind == 1) = true := by simp [hk1]
            have HK := hide hk1
            have HT := hide (Ht.out.below Hb2.out (Ht.out.lt))
            have hn0 := Hok.out.num0
            have hn1 := Hok.out.num1
            clear hk1
            have e0 : w1.cell? ⟨wr.heap.size, 0, none⟩ = some (.string fs[k].name) := hx1.cell 0
            have e2 : w1.cell? ⟨wr.heap.size, 3, none⟩ = some (.int .i64 fs[k].num) := hx1.cell 3
            have es0 : w1.cell? ⟨w.heap.size + 1, 0, none⟩ = some (.pointer (some ⟨w.heap.size, 0, none⟩)) := hS1.out.set.cell 0
            clear hx1
            go_upto_region 14 with fail
            go_still_tail 8, (by kernel_rfl)
            change wpList _ _ _ _ _ w1.drew
            clear e0 e2 es0
            generalize w1.drew = w2 at *
            go_wp2_with (go_at_call 46; refine (addInt_any w.heap.size _ _ _ _ _ (kpsOf es) fs[k].name fs[k].num _ HS2.out.fset HS2.out.map hkp h0 h1 Hdash.out hs Hnot.out hn0 hn1 HT.out).mono ?_; rintro e w3 ⟨v, p, mv', d, rfl, hA⟩; have HA := hide hA; clear hA)
            go_meet
            case rel =>
              have ha := HA.out
              obtain ⟨e, he, hr, mv2, hSn⟩ := HS2.out.enter Hb2.out.size (T := 3) (Tp := 141) (val := .int .i64 fs[k].num) (r := .pointer (some ⟨v, 0, none⟩)) (name := fs[k].name) ⟨v, p, mv', d, rfl, ha⟩ fs[k] rfl (by simp [FD.varT, HK.out]) (by simp [FD.ifT, HK.out]) (by simp [FD.cur, HK.out])
              have hkd : e.f.kind = 1 := by rw [he]; exact HK.out
              exact ⟨e, mv2, he, (Ent.ptr_other (by rw [hkd]; decide)).symm, hr.trans (Ent.ptr_same hkd).symm, (Ent.ptr_other (by rw [hkd]; decide)).symm, hSn, addBelow HS2.out Hb2.out Hb2.out.size ha.2.2.2.2.2.2.2⟩
          · have q1 : (fs[k].kind == 1) = false := by simp [hk1]
            have HK : Hid (fs[k].kind = 2) := hide (by have := hfine.out.kind0; have := hfine.out.kind2; have := HK0.out; omega)
            clear hk1
            have e0 : w1.cell? ⟨wr.heap.size, 0, none⟩ = some (.string fs[k].name) := hx1.cell 0
            have e2 : w1.cell? ⟨wr.heap.size, 4, none⟩ = some (.string fs[k].text) := hx1.cell 4
            have es0 : w1.cell? ⟨w.heap.size + 1, 0, none⟩ = some (.pointer (some ⟨w.heap.size, 0, none⟩)) := hS1.out.set.cell 0
            clear hx1
            go_upto_region 10 with fail
            go_still_tail 8, (by kernel_rfl)
            change wpList _ _ _ _ _ w1.drew
            clear e0 e2 es0
            generalize w1.drew = w2 at *
            go_wp2_with (go_at_call 47; refine (addString_any w.heap.size _ _ _ _ _ (kpsOf es) fs[k].name fs[k].text _ HS2.out.fset HS2.out.map hkp h0 h1 Hdash.out hs Hnot.out).mono ?_; rintro e w3 ⟨v, p, mv', d, rfl, hA⟩; have HA := hide hA; clear hA)
            go_meet
            case rel =>
              have ha := HA.out
              obtain ⟨e, he, hr, mv2, hSn⟩ := HS2.out.enter Hb2.out.size (T := 9) (Tp := 143) (val := .string fs[k].text) (r := .pointer (some ⟨v, 0, none⟩)) (name := fs[k].name) ⟨v, p, mv', d, rfl, ha⟩ fs[k] rfl (by simp [FD.varT, HK.out]) (by simp [FD.ifT, HK.out]) (by simp [FD.cur, HK.out])
              have hkd : e.f.kind = 2 := by rw [he]; exact HK.out
              exact ⟨e, mv2, he, (Ent.ptr_other (by rw [hkd]; decide)).symm, (Ent.ptr_other (by rw [hkd]; decide)).symm, hr.trans (Ent.ptr_same hkd).symm, hSn, addBelow HS2.out Hb2.out Hb2.out.size ha.2.2.2.2.2.2.2⟩
    · obtain rfl : k = fs.length := by omega
      have HP : DefPost fs (.slice A fs.length c) w (.returned (.pointer (some ⟨w.heap.size + 1, 0, none⟩))) wr := ⟨_, _, es, mv, vb, vn, vt, rfl, by rw [hes, List.take_length], hS, hb⟩
      have HPh := hide HP
      clear HP hS hb hes hin hok
      go_wp2_with fail
      go_ret
      exact HPh.out
end Go.Proofs.YtpcmiaablanmeaaGreatDoor
