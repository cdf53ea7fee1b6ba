/- laws.FnStops: it returns true. -/
import Derived.Test.YtpcmiaablanmeaaGreatDoorApp
import Derived.Test.YtpcmiaablanmeaaGreatDoorSParse
import Derived.Test.YtpcmiaablanmeaaGreatDoorDefined
namespace Go.Proofs.YtpcmiaablanmeaaGreatDoor
open Go.RowKit

/-- The law's walk: true, and nothing that was there has turned. -/
def StopsLaw (w : World) (e : Ending) (w' : World) : Prop := e = .returned (.bool true) ∧ Below w.heap.size w w'

theorem sizes_stops {args more : List ByteArray} (h1 : ∀ s ∈ args, s.size ≤ 1048576) (h2 : ∀ s ∈ more, s.size ≤ 1048576) : ∀ s ∈ args ++ more, s.size ≤ 16777216 := fun s hs => by
  rcases List.mem_append.1 hs with h | h
  · have := h1 s h; omega
  · have := h2 s h; omega

theorem stopAt_word {more : List ByteArray} (hp : 0 < more.length) (h : (decide (more[0].size < 2) || !hasB more[0] 0 45) = true) : StopAt more := fun t r' e => by
  subst e
  simpa using h

set_option maxHeartbeats 2000000 in
set_option maxRecDepth 100000 in
theorem law_stops (A : Option Addr) (c : Nat) (fs : List FD) (Ax : Option Addr) (cx : Nat) (args : List ByteArray) (Am : Option Addr) (cm : Nat) (more : List ByteArray) (w : World) (hl : fs.length ≤ 9223372036854775807) (hlc : fs.length ≤ c) (hin : FlagsIn w w.heap.size A fs) (hnil : A = none → c = 0) (hok : ∀ f ∈ fs, f.Ok) (ht : TabOk w)
    (hxl : args.length ≤ 9223372036854775807) (hxc : args.length ≤ cx) (hx : TextsIn w w.heap.size Ax args) (hxn : Ax = none → cx = 0) (hml : more.length ≤ 9223372036854775807) (hm : TextsIn w w.heap.size Am more) (hmn : Am = none → cm = 0) :
    Calls Tryz.prog 7 #[.slice A fs.length c, .slice Ax args.length cx, .slice Am more.length cm] w (StopsLaw w) := by
  have Hin := hide hin
  have Hok := hide hok
  have Ht := hide ht
  have Hx := hide hx
  have Hm := hide hm
  have Hnil := hide hnil
  have Hxn := hide hxn
  have Hmn := hide hmn
  clear hin hok ht hx hnil hxn hm hmn
  by_cases hf1 : fits1 fs = true
  · go_enter Tryz.func7, Tryz.ntmps7
    go_wp2_with (go_at_call 10; refine (zzFits1_any A c fs _ hl Hin.out Hok.out).mono ?_; rintro e w1 ⟨rfl, hb1⟩)
    have Hx1 := hide ((Hx.out.below hb1).mono hb1.size)
    have Hm1 := hide ((Hm.out.below hb1).mono hb1.size)
    have Hb1 := hide hb1
    clear hb1
    refine (zzFits3_any Ax cx args w1 hxl Hx1.out).mono ?_
    rintro e w2 ⟨b3, rfl, rfl⟩
    cases b3 with
    | false =>
      go_wp2_with fail
      go_ret
      exact ⟨rfl, Hb1.out⟩
    | true =>
    go_wp2_with fail
    refine (zzFits3_any Am cm more w1 hml Hm1.out).mono ?_
    rintro e w2 ⟨b3, rfl, rfl⟩
    cases b3 with
    | false =>
      go_wp2_with fail
      go_ret
      exact ⟨rfl, Hb1.out⟩
    | true =>
    go_wp2_with fail
    refine (short_any Ax cx args w1 hxl Hx1.out).mono ?_
    rintro e w2 ⟨b, rfl, hsh, rfl⟩
    have Hsh := hide hsh
    clear hsh
    cases b with
    | false =>
      go_wp2_with fail
      go_ret
      exact ⟨rfl, Hb1.out⟩
    | true =>
    have Hsz := hide (Hsh.out rfl)
    clear Hsh
    go_wp2_with fail
    refine (short_any Am cm more w1 hml Hm1.out).mono ?_
    rintro e w2 ⟨b, rfl, hsh, rfl⟩
    have Hsh := hide hsh
    clear hsh
    cases b with
    | false =>
      go_wp2_with fail
      go_ret
      exact ⟨rfl, Hb1.out⟩
    | true =>
    have Hmz := hide (Hsh.out rfl)
    clear Hsh
    have Hin1 := hide ((Hin.out.below Hb1.out).more Hb1.out.size)
    go_wp2_with fail
    refine (defined_any A c fs w1 hl hlc Hin1.out Hok.out).mono ?_
    rintro e w2 ⟨b, rfl, hD, hb2⟩
    have HD := hide hD
    have Hb2 := hide (below_call Hb1.out Hb1.out.size hb2)
    clear hD hb2
    cases b with
    | false =>
      go_wp2_with fail
      go_ret
      exact ⟨rfl, Hb2.out⟩
    | true =>
    have hDf := hide (HD.out rfl)
    have Hin2 := hide ((Hin.out.below Hb2.out).more Hb2.out.size)
    have Hx2 := hide ((Hx.out.below Hb2.out).mono Hb2.out.size)
    clear HD Hin1 Hx1 Hb1 Hm1
    go_wp2_with fail
    refine (sparse_any A c fs Ax cx args w2 hDf.out.len hlc Hin2.out Hnil.out Hok.out Hx2.out hxc Hsz.out.2 Hsz.out.1).mono ?_
    rintro e w3 ⟨fa, fn, fc, na, nn, nc, ra, rn, rc, st, bad, said, ended, rfl, hb3, hst⟩
    have Hst := hide hst
    have Hb3 := hide (below_call Hb2.out Hb2.out.size hb3)
    clear hst hb3 Hin2 Hx2 Hb2
    go_wp2_with fail
    refine (open_any fa na ra fn fc nn nc rn rc st bad said ended w3).mono ?_
    rintro e w4 ⟨⟨b, rfl, hop⟩, hb4⟩
    have Hop := hide hop
    have Hb4 := hide (below_call Hb3.out Hb3.out.size hb4)
    clear hop hb4
    cases b with
    | false =>
      go_wp2_with fail
      go_ret
      exact ⟨rfl, Hb4.out⟩
    | true =>
    have Hopx := hide (Hop.out rfl)
    clear Hop
    by_cases hpos : 0 < more.length
    case neg =>
      have hlm : ((more.length : Int) == 0) = true := beq_iff_eq.2 (by omega)
      have hlm2 : more.length = 0 := by omega
      go_wp2_with fail
      go_ret
      exact ⟨rfl, Hb4.out⟩
    have hlm : ((more.length : Int) == 0) = false := beq_eq_false_iff_ne.2 (by omega)
    obtain ⟨mb0, mo0, rfl, hmlt, hmc⟩ := Hm.out 0 hpos
    have hm0 : w4.cell? ⟨mb0, mo0, none⟩ = some (.string more[0]) := (Hb4.out.cell (p := ⟨mb0, mo0, none⟩) hmlt).trans (hmc 0 _ (List.getElem?_eq_getElem hpos))
    have hsz0 : more[0].size ≤ 1048576 := Hmz.out.2 _ (List.getElem_mem hpos)
    clear hmc hmlt
    go_wp2_with fail
    refine (word_any more[0] w4 (by omega)).mono ?_
    rintro e w5 ⟨rfl, rfl⟩
    cases hwd : (decide (more[0].size < 2) || !hasB more[0] 0 45) with
    | false =>
      have Hwd := hide hwd
      clear hwd
      go_wp2_with fail
      go_ret
      exact ⟨rfl, Hb4.out⟩
    | true =>
    have HS := hide (stopAt_word hpos hwd)
    clear hwd hm0 hlm hsz0
    obtain ⟨e0, _, e2, e3⟩ := Hopx.out
    obtain ⟨cur, ss, L, hR, _, _, _, e4, _, _⟩ := Hst.out e0
    have HR : Hid (Reads fs fs args [] cur ss [] false) := hide (by
      have hL : L = [] := List.eq_nil_of_length_eq_zero (by omega)
      rw [hL, e2] at hR
      exact hR)
    clear e0 e2 e3 e4 hR Hst Hopx Hb3
    have Hin4 := hide ((Hin.out.below Hb4.out).more Hb4.out.size)
    have Hx4 := hide ((Hx.out.below Hb4.out).mono Hb4.out.size)
    have Ht4 := hide (Ht.out.below Hb4.out Ht.out.lt)
    go_wp2_with fail
    refine (iparse_any A c fs Ax cx args w4 Hin4.out Hok.out hDf.out Ht4.out Hx4.out Hxn.out (fun s hs => Nat.le_trans (Hsz.out.2 s hs) (by omega)) (Nat.le_trans Hsz.out.1 (by omega)) HR.out).mono ?_
    rintro e w5 ⟨ga, gc, ma, mc, qa, qc, ns, rfl, hpn, hio, hr1, hr2, hr3, hb5⟩
    have HX := hide (AnsParts.mk hpn hio hr1 hr2 hr3 hb5)
    have Hb5 := hide (below_call Hb4.out Hb4.out.size hb5)
    clear hpn hio hr1 hr2 hr3 hb5 Hin4 Hx4 Ht4
    unfold ansCells
    have hcl := (reads_only HR.out (OnlyAll.refl fs)).1
    have hc1 : ((cur.length : Int) == (fs.length : Int)) = true := by rw [hcl]; simp
    have hc2 : (cur.length == fs.length) = true := by rw [hcl]; simp
    have Hcl := hide hcl
    clear hcl
    obtain ⟨W, hW⟩ : ∃ W, W = w5.alloc (.cells #[.slice ga cur.length gc, .slice ma ns.length mc, .slice qa 0 qc, .int .i64 0] 31) := ⟨_, rfl⟩
    have HB : Hid (Blk W w5.heap.size 31 #[.slice ga cur.length gc, .slice ma ns.length mc, .slice qa 0 qc, .int .i64 0]) := by rw [hW]; exact hide (Blk.new _ _ _)
    have HoW : Hid (Off (fun _ => False) w5 W) := by rw [hW]; exact hide ((Off.refl _ w5).alloc _)
    have HbW : Hid (Below w.heap.size w W) := by rw [hW]; exact hide (Hb5.out.alloc Hb5.out.size _)
    go_upto_region 6 with fail
    rw [← hW]
    clear hW
    generalize w5.heap.size = xb at *
    have HxW := hide ((Hx.out.below HbW.out).at)
    have HmW := hide ((Hm.out.below HbW.out).at)
    have Hown0 := hide (show (W.alloc (.cells #[] 9)).ownsRow W.heap.size 9 1 (.slice (some ⟨W.heap.size, 0, none⟩) 0 0) 0 (([] : List ByteArray).map Value.string) from ⟨rfl, .inr ⟨W.heap.size, 0, #[], rfl, Nat.le_refl _, heap_alloc_new W _, Nat.le_refl _, Nat.zero_le _, rfl, rfl⟩⟩)
    have HO1 := hide ((Off.refl (fun _ => False) W).alloc (.cells #[] 9))
    have tok1 : True := trivial
    have tok2 : True := trivial
    have la := Hsz.out.1
    have lm := Hmz.out.1
    go_upto_region 7 with (first
      | (at_builtin; have _t := tok1; refine append_texts rfl _ _ rfl W.heap.size _ 0 args.length [] args args rfl rfl rfl rfl Hown0.out Ax args.length cx rfl rfl (HxW.out.off HO1.out) Hxn.out (by omega) HO1.out.size ?_; intro A1 c1 W2 h1 g1; have H1 := hide h1; have HO2 := hide (off_grow HO1.out Hown0.out g1 (Nat.le_refl _)); clear tok1 h1 g1)
      | (at_builtin; have _t := tok2; refine append_texts rfl _ _ rfl W.heap.size _ args.length (args.length + more.length) args more (args ++ more) rfl (by rw [List.length_append]) rfl rfl H1.out _ more.length cm rfl rfl (HmW.out.off HO2.out) Hmn.out (by omega) HO2.out.size ?_; intro A3 c3 W5 h3 g3; have hI := own_textsIn h3 (by rw [List.length_append]); have HI := hide hI; have HO5 := hide (off_grow HO2.out H1.out g3 (Nat.le_refl _)); clear tok2 h3 g3 hI; have HbW5 := hide (HbW.out.trans (HO5.out.below (B := w.heap.size) (fun _ _ h => h.elim) HbW.out.size)); have HPy := hide (iparse_any A c fs A3 c3 _ W5 ((Hin.out.below HbW5.out).more HbW5.out.size) Hok.out hDf.out (Ht.out.below HbW5.out Ht.out.lt) HI.out.1 HI.out.2 (sizes_stops Hsz.out.2 Hmz.out.2) (by rw [List.length_append]; omega) (reads_stop HR.out more HS.out)); rw [show (args ++ more).length = args.length + more.length from List.length_append] at HPy)
      | (go_at_call 16; refine HPy.out.mono ?_; rintro e w6 ⟨gb, gd, mb, md, qb, qd, ns2, rfl, hpn, hio, hr1, hr2, hr3, hb6⟩; have HY := hide (AnsParts.mk hpn hio hr1 hr2 hr3 hb6); have hns := inOrder_eq (hpn.trans HX.out.perm.symm) hio HX.out.order; subst hns; clear hpn hio hr1 hr2 hr3 hb6; unfold ansCells))
    obtain ⟨V, hV⟩ : ∃ V, V = w6.alloc (.cells #[.slice gb cur.length gd, .slice mb ns2.length md, .slice qb more.length qd, .int .i64 0] 31) := ⟨_, rfl⟩
    have HV : Hid (Blk V w6.heap.size 31 #[.slice gb cur.length gd, .slice mb ns2.length md, .slice qb more.length qd, .int .i64 0]) := by rw [hV]; exact hide (Blk.new _ _ _)
    have HoV : Hid (Off (fun _ => False) w6 V) := by rw [hV]; exact hide ((Off.refl _ w6).alloc _)
    rw [← hV]
    clear hV
    have HoY : Hid (Off (fun _ => False) W5 w6) := hide (off_of_below HY.out.below)
    have HoWV : Hid (Off (fun _ => False) W V) := hide (((HO5.out.trans HoY.out (fun _ _ h => h)).trans HoV.out (fun _ _ h => h)))
    have HoX : Hid (Off (fun _ => False) w5 V) := hide (HoW.out.trans HoWV.out (fun _ _ h => h))
    have HbV : Hid (Below w.heap.size w V) := hide (HbW.out.trans (HoWV.out.below (B := w.heap.size) (fun _ _ h => h.elim) HbW.out.size))
    have HBV := hide (HB.out.off HoWV.out (fun h => h))
    have hfx := flat_rd (own_offN HX.out.fls HoX.out (fun _ _ _ _ h => h))
    have hfy := flat_rd (own_offN HY.out.fls HoV.out (fun _ _ _ _ h => h))
    have hnx := own_texts (own_offN HX.out.nms HoX.out (fun _ _ _ _ h => h))
    have hny := own_texts (own_offN HY.out.nms HoV.out (fun _ _ _ _ h => h))
    have hry := own_texts (own_offN HY.out.rst HoV.out (fun _ _ _ _ h => h))
    have hmv := (Hm.out.below HbV.out).at
    have hlc' := Hcl.out
    have hlf := hDf.out.len
    have hln : ns2.length ≤ 100000 := by have h1 := HX.out.perm.length_eq; have h2 := reads_seen HR.out; have h3 := Hsz.out.1; simp only [List.length_nil] at h2; omega
    have HE1 := hide (equal_flags gb ga gd gc cur V hfy hfx (by omega))
    have HE2 := hide (fun q => equal_texts mb ma md mc ns2 (V.drewN q) (hny.drewN q) (hnx.drewN q) (by omega))
    have HE3 := hide (fun q => equal_texts qb _ qd cm more (V.drewN q) (hry.drewN q) (hmv.drewN q) (by omega))
    have y0 : V.cell? ⟨w6.heap.size, 0, none⟩ = some (.slice gb cur.length gd) := HV.out.cell 0
    have y1 : ∀ q, (V.drewN q).cell? ⟨w6.heap.size, 1, none⟩ = some (.slice mb ns2.length md) := fun q => HV.out.cell 1
    have y2 : ∀ q, (V.drewN q).cell? ⟨w6.heap.size, 2, none⟩ = some (.slice qb more.length qd) := fun q => HV.out.cell 2
    have y3 : V.cell? ⟨w6.heap.size, 3, none⟩ = some (.int .i64 0) := HV.out.cell 3
    have x0 : V.cell? ⟨xb, 0, none⟩ = some (.slice ga cur.length gc) := HBV.out.cell 0
    have x1 : ∀ q, (V.drewN q).cell? ⟨xb, 1, none⟩ = some (.slice ma ns2.length mc) := fun q => HBV.out.cell 1
    clear hfx hfy hnx hny hry hmv hlc' HX HY HR HB HV HBV HO1 HO2 HO5 H1 HI HPy HbW HbW5 HxW HmW Hown0 HoW HoV HoY HoWV HoX Hb4 Hb5 lm la
    generalize w6.heap.size = yb at *
    have tok1 : True := trivial
    have tok2 : True := trivial
    have tok3 : True := trivial
    go_wp2_with (first
      | (go_at_call 17; have _t := tok1; refine HE1.out.mono ?_; rintro e w7 ⟨rfl, q1, rfl⟩; have y1' := y1 q1; have x1' := x1 q1; clear tok1 y1 x1)
      | (go_at_call 18; have _t := tok2; refine (HE2.out _).mono ?_; rintro e w8 ⟨rfl, q2, rfl⟩; rw [World.drewN_drewN]; have y2' := y2 (q1 + q2); clear tok2 y2)
      | (go_at_call 18; have _t := tok3; refine (HE3.out _).mono ?_; rintro e w9 ⟨rfl, q3, rfl⟩; clear tok3))
    go_ret
    exact ⟨rfl, below_drewN HbV.out _⟩
  · have hf1' : fits1 fs = false := by simpa using hf1
    clear hf1
    go_enter Tryz.func7, Tryz.ntmps7
    go_wp2_with (go_at_call 10; refine (zzFits1_any A c fs _ hl Hin.out Hok.out).mono ?_; rintro e w1 ⟨rfl, hb1⟩)
    go_ret
    exact ⟨rfl, by assumption⟩
end Go.Proofs.YtpcmiaablanmeaaGreatDoor
