/- laws.FnRewritten: it returns true. -/
import Derived.Test.YtpcmiaablanmeaaGreatDoorRwW
import Derived.Test.YtpcmiaablanmeaaGreatDoorEqa
import Derived.Test.YtpcmiaablanmeaaGreatDoorSParse
import Derived.Test.YtpcmiaablanmeaaGreatDoorDefined
namespace Go.Proofs.YtpcmiaablanmeaaGreatDoor
open Go.RowKit

/-- The law's walk: true, and nothing that was there has turned. -/
def RwLaw (w : World) (e : Ending) (w' : World) : Prop := e = .returned (.bool true) ∧ Below w.heap.size w w'

theorem BoolsIn.more {w : World} {B B' : Nat} {A : Option Addr} {n : Nat} (h : BoolsIn w B A n) (hB : B ≤ B') : BoolsIn w B' A n := fun i hi => by
  obtain ⟨b, off, hA, hlt, x, hx⟩ := h i hi
  exact ⟨b, off, hA, by omega, x, hx⟩
theorem cells4 {w : World} {b : Nat} {t : TypeId} {v0 v1 v2 v3 : Value} (h : Blk w b t #[v0, v1, v2, v3]) : w.cell? ⟨b, 0, none⟩ = some v0 ∧ w.cell? ⟨b, 1, none⟩ = some v1 ∧ w.cell? ⟨b, 2, none⟩ = some v2 ∧ w.cell? ⟨b, 3, none⟩ = some v3 := ⟨h.cell 0, h.cell 1, h.cell 2, h.cell 3⟩

/-- The second answer and the first, at the world behind the second. -/
theorem equal_parts {cur : List FD} {ss rest ns : List ByteArray} {w5 w6 w7 W : World} {ga ma qa gb mb qb : Option Addr} {gc mc qc gd md qd : Nat} (hy : AnsParts cur ss rest ns w6 w7 gb gd mb md qb qd) (hx : AnsParts cur ss rest ns W w5 ga gc ma mc qa qc) (ho : Off (fun _ => False) w5 w7) (h1 : cur.length ≤ 100000) (h2 : ns.length ≤ 100000) (h3 : rest.length ≤ 100000) :
    Calls Tryz.prog 24 #[.agg (ansCells (.slice gb cur.length gd) (.slice mb ns.length md) (.slice qb rest.length qd) 0), .agg (ansCells (.slice ga cur.length gc) (.slice ma ns.length mc) (.slice qa rest.length qc) 0)] w7 fun e w' => e = .returned (.bool true) ∧ Below w7.heap.size w7 w' :=
  equal_any gb mb qb ga ma qa gd md qd gc mc qc cur ns rest w7 (flat_rd hy.fls) (flat_rd (own_offN hx.fls ho (fun _ _ _ _ h => h))) (own_texts hy.nms) (own_texts (own_offN hx.nms ho (fun _ _ _ _ h => h))) (own_texts hy.rst) (own_texts (own_offN hx.rst ho (fun _ _ _ _ h => h))) h1 h2 h3

set_option maxHeartbeats 2000000 in
set_option maxRecDepth 100000 in
theorem law_rewritten (A : Option Addr) (c : Nat) (fs : List FD) (Ax : Option Addr) (cx : Nat) (args : List ByteArray) (At : Option Addr) (nt ct : Nat) (As : Option Addr) (ns cs : Nat) (w : World) (hl : fs.length ≤ 9223372036854775807) (hlc : fs.length ≤ c) (hin : FlagsIn w w.heap.size A fs) (hnil : A = none → c = 0) (hok : ∀ f ∈ fs, f.Ok) (ht : TabOk w)
    (hxl : args.length ≤ 9223372036854775807) (hxc : args.length ≤ cx) (hx : TextsIn w w.heap.size Ax args) (hxn : Ax = none → cx = 0) (hbt : BoolsIn w w.heap.size At nt) (hbs : BoolsIn w w.heap.size As ns) (hnt : nt ≤ 9223372036854775807) (hns : ns ≤ 9223372036854775807) :
    Calls Tryz.prog 6 #[.slice A fs.length c, .slice Ax args.length cx, .slice At nt ct, .slice As ns cs] w (RwLaw w) := by
  have Hin := hide hin
  have Hok := hide hok
  have Ht := hide ht
  have Hx := hide hx
  have Hnil := hide hnil
  have Hxn := hide hxn
  have Hbt := hide hbt
  have Hbs := hide hbs
  clear hin hok ht hx hnil hxn hbt hbs
  by_cases hf1 : fits1 fs = true
  · go_enter Tryz.func6, Tryz.ntmps6
    go_wp2_with (go_at_call 10; refine (zzFits1_any A c fs _ hl Hin.out Hok.out).mono ?_; rintro e w1 ⟨rfl, hb1⟩)
    have Hx1 := hide ((Hx.out.below hb1).mono hb1.size)
    have Hb1 := hide hb1
    clear hb1
    refine (zzFits3_any Ax cx args w1 hxl Hx1.out).mono ?_
    rintro e w2 ⟨b3, rfl, rfl⟩
    cases b3 with
    | false =>
      go_wp2_with fail
      go_ret
      exact ⟨rfl, Hb1.out⟩
    | true =>
    by_cases qt : 2147483647 < nt
    · have dt : decide ((2147483647 : Int) < (nt : Int)) = true := by simp; omega
      go_wp2_with fail
      go_ret
      exact ⟨rfl, Hb1.out⟩
    have dt : decide ((2147483647 : Int) < (nt : Int)) = false := by simp; omega
    by_cases qs : 2147483647 < ns
    · have ds : decide ((2147483647 : Int) < (ns : Int)) = true := by simp; omega
      go_wp2_with fail
      go_ret
      exact ⟨rfl, Hb1.out⟩
    have ds : decide ((2147483647 : Int) < (ns : Int)) = false := by simp; omega
    clear qt qs
    go_wp2_with fail
    refine (short_any Ax cx args w1 hxl Hx1.out).mono ?_
    rintro e w2 ⟨b, rfl, hsh, rfl⟩
    have Hsh := hide hsh
    clear hsh
    cases b with
    | false =>
      go_wp2_with fail
      go_ret
      exact ⟨rfl, Hb1.out⟩
    | true =>
    have Hsz := hide (Hsh.out rfl)
    clear Hsh
    have Hin1 := hide ((Hin.out.below Hb1.out).more Hb1.out.size)
    go_wp2_with fail
    refine (defined_any A c fs w1 hl hlc Hin1.out Hok.out).mono ?_
    rintro e w2 ⟨b, rfl, hD, hb2⟩
    have HD := hide hD
    have Hb2 := hide (below_call Hb1.out Hb1.out.size hb2)
    clear hD hb2
    cases b with
    | false =>
      go_wp2_with fail
      go_ret
      exact ⟨rfl, Hb2.out⟩
    | true =>
    have hDf := hide (HD.out rfl)
    have Hin2 := hide ((Hin.out.below Hb2.out).more Hb2.out.size)
    have Hx2 := hide ((Hx.out.below Hb2.out).mono Hb2.out.size)
    clear HD Hin1 Hx1 Hb1
    go_wp2_with fail
    refine (sparse_any A c fs Ax cx args w2 hDf.out.len hlc Hin2.out Hnil.out Hok.out Hx2.out hxc Hsz.out.2 Hsz.out.1).mono ?_
    rintro e w3 ⟨fa, fn, fc, na, nn, nc, ra, rn, rc, st, bad, said, ended, rfl, hb3, hst⟩
    have Hst := hide hst
    have Hb3 := hide (below_call Hb2.out Hb2.out.size hb3)
    clear hst hb3
    have hz3 := Hb3.out.size
    clear Hin2 Hx2 Hb2
    cases said with
    | false =>
      unfold readCells
      go_wp2_with fail
      go_ret
      exact ⟨rfl, Hb3.out.alloc hz3 _⟩
    | true =>
    by_cases hs0 : st = 0
    case neg =>
      have q0 : (st == 0) = false := by simpa using hs0
      have q1 : (st != 0) = true := by rw [bne, q0]; rfl
      clear hs0 Hst
      unfold readCells
      go_wp2_with fail
      go_ret
      exact ⟨rfl, Hb3.out.alloc hz3 _⟩
    obtain ⟨cur, ss, L, hR, _, _, _, rfl, rfl, _⟩ := Hst.out hs0
    have HR := hide hR
    subst hs0
    clear hR Hst
    obtain ⟨W, hW⟩ : ∃ W, W = w3.alloc (.cells (readCells (.slice fa fn fc) (.slice na ss.length nc) (.slice ra L.length rc) 0 bad true ended) 40) := ⟨_, rfl⟩
    have HR0 : Hid (Blk W w3.heap.size 40 (readCells (.slice fa fn fc) (.slice na ss.length nc) (.slice ra L.length rc) 0 bad true ended)) := hide (by rw [hW]; exact Blk.new _ _ _)
    have HbW : Hid (Below w.heap.size w W) := hide (by rw [hW]; exact Hb3.out.alloc hz3 _)
    unfold readCells at hW
    unfold readCells
    go_upto_region 6 with fail
    rw [← hW]
    clear hW
    have g5 : W.cell? ⟨w3.heap.size, 5, none⟩ = some (.bool true) := HR0.out.cell 5
    have g3 : W.cell? ⟨w3.heap.size, 3, none⟩ = some (.int .i64 0) := HR0.out.cell 3
    have HinW := hide ((Hin.out.below HbW.out).more HbW.out.size)
    have HxW := hide ((Hx.out.below HbW.out).mono HbW.out.size)
    have HtW := hide (Ht.out.below HbW.out Ht.out.lt)
    have HP1 := hide (iparse_any A c fs Ax cx args W HinW.out Hok.out hDf.out HtW.out HxW.out Hxn.out (fun s hs => Nat.le_trans (Hsz.out.2 s hs) (by omega)) (Nat.le_trans Hsz.out.1 (by omega)) HR.out)
    generalize w3.heap.size = rb at *
    go_upto_region 8 with fail
    clear g3 g5 HR0 Hb3 hz3
    go_upto_region 9 with (go_at_call 16; refine HP1.out.mono ?_; rintro e w5 ⟨ga, gc, ma, mc, qa, qc, ns1, rfl, hpn, hio, hr1, hr2, hr3, hb5⟩; have HX := hide (AnsParts.mk hpn hio hr1 hr2 hr3 hb5); have Hb5 := hide (below_call HbW.out HbW.out.size hb5); clear hpn hio hr1 hr2 hr3 hb5; unfold ansCells)
    clear HP1 HinW HxW HtW
    have hcl := (reads_only HR.out (OnlyAll.refl fs)).1
    have hc1 : ((cur.length : Int) == (fs.length : Int)) = true := by rw [hcl]; simp
    have hc2 : (cur.length == fs.length) = true := by rw [hcl]; simp
    have Hcl := hide hcl
    clear hcl
    obtain ⟨V, hV⟩ : ∃ V, V = w5.alloc (.cells #[.slice ga cur.length gc, .slice ma ns1.length mc, .slice qa L.length qc, .int .i64 0] 31) := ⟨_, rfl⟩
    have HV : Hid (Blk V w5.heap.size 31 #[.slice ga cur.length gc, .slice ma ns1.length mc, .slice qa L.length qc, .int .i64 0]) := by rw [hV]; exact hide (Blk.new _ _ _)
    have HoV : Hid (Off (fun _ => False) w5 V) := by rw [hV]; exact hide ((Off.refl _ w5).alloc _)
    have HbV : Hid (Below w.heap.size w V) := by rw [hV]; exact hide (Hb5.out.alloc Hb5.out.size _)
    rw [← hV]
    clear hV
    generalize w5.heap.size = xb at *
    have sV : V.cell? ⟨xb, 0, none⟩ = some (.slice ga cur.length gc) ∧ V.cell? ⟨xb, 1, none⟩ = some (.slice ma ns1.length mc) ∧ V.cell? ⟨xb, 2, none⟩ = some (.slice qa L.length qc) ∧ V.cell? ⟨xb, 3, none⟩ = some (.int .i64 0) := ⟨HV.out.cell 0, HV.out.cell 1, HV.out.cell 2, HV.out.cell 3⟩
    have HoD := hide (HoV.out.trans (Off.refl (fun _ => False) V).drew (fun _ _ h => h))
    have HbD := hide (HbV.out.trans ((Off.refl (fun _ => False) V).drew.below (B := w.heap.size) (fun _ _ h => h.elim) HbV.out.size))
    have HVD := hide (HV.out.off (Off.refl (fun _ => False) V).drew (fun h => h))
    have HRw := hide (rewritten_any A c fs Ax cx args At nt ct As ns cs V.drew hDf.out.len hlc ((Hin.out.below HbD.out).more HbD.out.size) ((Hx.out.below HbD.out).mono HbD.out.size) hxc Hxn.out Hsz.out.2 Hsz.out.1 ((Hbt.out.below HbD.out).more HbD.out.size) ((Hbs.out.below HbD.out).more HbD.out.size) HR.out)
    go_region_held3 (fun w' => w'.cell? ⟨xb, 0, none⟩ = some (.slice ga cur.length gc) ∧ w'.cell? ⟨xb, 1, none⟩ = some (.slice ma ns1.length mc) ∧ w'.cell? ⟨xb, 2, none⟩ = some (.slice qa L.length qc) ∧ w'.cell? ⟨xb, 3, none⟩ = some (.int .i64 0))
      (first | with_reducible exact s8 | with_reducible exact s7 | with_reducible exact s6 | with_reducible exact sV | go_keep)
      (first
        | (go_at_call 25; refine HRw.out.mono ?_; rintro e w6 ⟨A6, c6, zs, rfl, hown, hrz, hzl, hzs, hb6⟩; have H6 := hide (own_textsIn hown rfl); have Hb6 := hide (below_call HbD.out HbD.out.size hb6); have HV6 := hide (HVD.out.off (off_of_below (S := fun _ => False) hb6) (fun h => h)); have HoX6 := hide (HoD.out.trans (off_of_below (S := fun _ => False) hb6) (fun _ _ h => h)); have s6 := cells4 HV6.out; have HP2 := hide (iparse_any A c fs A6 c6 zs w6 ((Hin.out.below Hb6.out).more Hb6.out.size) Hok.out hDf.out (Ht.out.below Hb6.out Ht.out.lt) H6.out.1 H6.out.2 hzs (by have := Hsz.out.1; omega) hrz); clear hown hrz hzl hzs hb6)
        | (go_at_call 16; refine HP2.out.mono ?_; rintro e w7 ⟨gb, gd, mb, md, qb, qd, ns2, rfl, hpn, hio, hr1, hr2, hr3, hb7⟩; have HY := hide (AnsParts.mk hpn hio hr1 hr2 hr3 hb7); have hns := inOrder_eq (hpn.trans HX.out.perm.symm) hio HX.out.order; subst hns; have Hb7 := hide (below_call Hb6.out Hb6.out.size hb7); have HV7 := hide (HV6.out.off (off_of_below (S := fun _ => False) hb7) (fun h => h)); have HoX7 := hide (HoX6.out.trans (off_of_below (S := fun _ => False) hb7) (fun _ _ h => h)); have s7 := cells4 HV7.out; clear hpn hio hr1 hr2 hr3 hb7; have HEq := hide (equal_parts (gc := gc) (mc := mc) (qc := qc) (gd := gd) (md := md) (qd := qd) HY.out HX.out HoX7.out (by have := Hcl.out; have := hDf.out.len; omega) (by have h1 := HX.out.perm.length_eq; have h2 := reads_seen HR.out; have h3 := Hsz.out.1; simp only [List.length_nil] at h2; omega) (by have h2 := reads_len HR.out; have h3 := Hsz.out.1; omega)); unfold ansCells)
        | (go_at_call 24; refine HEq.out.mono ?_; rintro e w8 ⟨rfl, hb8⟩; have Hb8 := hide (below_call Hb7.out Hb7.out.size hb8); have s8 := cells4 (HV7.out.off (off_of_below (S := fun _ => False) hb8) (fun h => h)); clear hb8))
    go_wp2_with fail
    go_ret
    exact ⟨rfl, Hb8.out⟩
  · have hf1' : fits1 fs = false := by simpa using hf1
    clear hf1
    go_enter Tryz.func6, Tryz.ntmps6
    go_wp2_with (go_at_call 10; refine (zzFits1_any A c fs _ hl Hin.out Hok.out).mono ?_; rintro e w1 ⟨rfl, hb1⟩)
    go_ret
    exact ⟨rfl, by assumption⟩
end Go.Proofs.YtpcmiaablanmeaaGreatDoor
