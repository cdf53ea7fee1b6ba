/- impl.Parse on arguments that are read: a contract. -/
import Derived.Test.YtpcmiaablanmeaaGreatDoorAns
import Derived.Test.YtpcmiaablanmeaaGreatDoorDef
namespace Go.Proofs.YtpcmiaablanmeaaGreatDoor
open Go.RowKit Go.Maps

/-- What is known of an answer's parts. -/
structure AnsParts (cur : List FD) (ss rest ns : List ByteArray) (w w' : World) (ga : Option Addr) (gc : Nat) (na : Option Addr) (nc : Nat) (ra : Option Addr) (rc : Nat) : Prop where
  perm : ns.Perm ss
  order : InOrder ns
  fls : w'.ownsRow w.heap.size 36 5 (.slice ga cur.length gc) cur.length (flatV cur)
  nms : w'.ownsRow w.heap.size 9 1 (.slice na ns.length nc) ns.length (ns.map Value.string)
  rst : w'.ownsRow w.heap.size 9 1 (.slice ra rest.length rc) rest.length (rest.map Value.string)
  below : Below w.heap.size w w'

theorem iparse_below {w w1 w3 w4 : World} {B : Nat} (h1 : Below w.heap.size w w1) (h3 : Off (fun _ => False) w1 w3) (h4 : Off (fun j => B ≤ j) w3 w4) (hB : w.heap.size ≤ B) : Below w.heap.size w w4 :=
  (((Below.off' h1).trans h3 (fun _ _ h => h.elim)).trans h4 (fun j _ h => by omega)).below (fun _ _ h => h) (Nat.le_refl _)

theorem iparse_close {cur : List FD} {ss rest ns : List ByteArray} {w w4 w5 w6 : World} {ga na ra : Option Addr} {gc nc rc : Nat} (h : AnsParts cur ss rest ns w4 w5 ga gc na nc ra rc) (hb : Below w.heap.size w w4) (ho : Off (fun j => j = w.heap.size) w5 w6) (hlt : w.heap.size < w4.heap.size) :
    AnsPost cur ss rest w (.returned (.agg (ansCells (.slice ga cur.length gc) (.slice na ns.length nc) (.slice ra rest.length rc) 0))) w6 :=
  ⟨ga, gc, na, nc, ra, rc, ns, rfl, h.perm, h.order, own_baseN (own_offN h.fls ho (fun j _ hj _ e => by omega)) (by omega), own_baseN (own_offN h.nms ho (fun j _ hj _ e => by omega)) (by omega), own_baseN (own_offN h.rst ho (fun j _ hj _ e => by omega)) (by omega),
    (hb.trans (h.below.mono (by omega))).trans (ho.below (fun j _ hj => by omega) (by have := h.below.size; omega))⟩

theorem cell_far4 {w : World} {sb b : Nat} {v : Value} (h : w.cell? ⟨sb, 0, none⟩ = some v) (hne : ¬ (sb = b)) (v0 v1 v2 v3 : Value) : ((((w.setCell ⟨b, 0, none⟩ v0).setCell ⟨b, 1, none⟩ v1).setCell ⟨b, 2, none⟩ v2).setCell ⟨b, 3, none⟩ v3).cell? ⟨sb, 0, none⟩ = some v := by
  have hx : ∀ (W : World) (i : Nat) (u : Value), (W.setCell ⟨b, i, none⟩ u).cell? ⟨sb, 0, none⟩ = W.cell? ⟨sb, 0, none⟩ := fun W i u => World.cell?_setCell_other _ _ _ _ (by intro e; injection e with e1 _ _; exact hne (by first | exact e1 | exact e1.symm))
  rw [hx, hx, hx, hx]
  exact h

theorem setCells_nil (w : World) (b o : Nat) : w.setCells b o [] = w := rfl

theorem reads_len {fs cur : List FD} {args seen : List ByteArray} {cur' : List FD} {seen' rest : List ByteArray} {ended : Bool} (h : Reads fs cur args seen cur' seen' rest ended) : rest.length ≤ args.length := by
  induction h with
  | stop cur args seen h => exact Nat.le_refl _
  | term cur s rest seen h => simp
  | step cur s b rest seen i v rest' f f' seen1 cur' seen' rest'' ended hb hm hf ht hs next ih =>
    have := means_len hm
    rw [List.length_cons]
    omega

set_option maxHeartbeats 1000000 in
set_option maxRecDepth 100000 in
theorem iparse_some (A : Option Addr) (c : Nat) (fs : List FD) (ax : Addr) (cx : Nat) (args : List ByteArray) (w : World) (hin : FlagsIn w w.heap.size A fs) (hok : ∀ f ∈ fs, f.Ok) (hD : DefinedP fs) (ht : TabOk w) (hx : TextsIn w w.heap.size (some ax) args) (hxs : ∀ s ∈ args, s.size ≤ 16777216) (hxl : args.length ≤ 100000) (hpos : 0 < args.length)
    {cur' : List FD} {ss' rest : List ByteArray} {ended : Bool} (hR : Reads fs fs args [] cur' ss' rest ended) :
    Calls Tryz.prog 16 #[.slice A fs.length c, .slice (some ax) args.length cx] w (AnsPost cur' ss' rest w) := by
  have Hin := hide hin
  have Hok := hide hok
  have Htb := hide ht
  have hk2 : Hid (∀ (k : Nat) (hk : k < fs.length), 0 ≤ fs[k].kind ∧ fs[k].kind ≤ 2) := hide (fun k hk => ⟨(hD.fine _ (List.getElem_mem hk)).kind0, (hD.fine _ (List.getElem_mem hk)).kind2⟩)
  have Honly := hide (reads_only hR (OnlyAll.refl fs))
  have Hrl := hide (reads_len hR)
  have Hx := hide hx
  have HD := hide hD
  have HR := hide hR
  clear hin hok hD ht hx hR
  go_enter Tryz.func16, Tryz.ntmps16
  go_upto_region 1 with fail
  go_name_world w0 hw0
  have hz0 : w.heap.size + 1 ≤ w0.heap.size := by rw [← hw0]; simp
  have HRes : Hid (Blk w0 w.heap.size 31 (ansCells (.slice none 0 0) (.slice none 0 0) (.slice none 0 0) 0)) := by rw [← hw0]; exact hide (Blk.new w _ _)
  have Hba : Hid (Below w.heap.size w w0) := by rw [← hw0]; exact hide ((Below.refl _ _).alloc (Nat.le_refl _) _)
  clear hw0
  have HDef := hide (define_any A c fs w0 ((Hin.out.below Hba.out).more (by omega)) Hok.out HD.out (Htb.out.below Hba.out Htb.out.lt))
  go_wp2_with (first | (go_at_call 32; refine HDef.out.mono ?_; rintro e w1 ⟨sb, fb, es, mv, vb, vn, vt, rfl, hes, hS, hb⟩) | fail)
  have hb1 := hb
  have Hb0 := hide (Hba.out.trans (hb.mono (by omega)))
  have HRes1 := hide (HRes.out.off (off_of_below (S := fun _ => False) hb) (fun h => h))
  have hnsb : ¬ (sb = w.heap.size) := fun e => by have := hS.setB; omega
  have s0 : w1.cell? ⟨sb, 0, none⟩ = some (.pointer (some ⟨fb, 0, none⟩)) := hS.set.cell 0
  have hsl := hS.set.lt
  have HS := hide hS
  have Hes := hide hes
  have Hb := Hb0
  have hbz := hb.size
  have hbzz := Hb0.out.size
  clear hS hes hb hb1 HDef
  obtain ⟨i0, hi0, hz00, hz01, hz02⟩ := info_parts Tryz.infoText
  have hxn : ∀ j u, (args.map Value.string)[j]? = some u → w1.cell? (ax.add j) = some u := fun j u hj => by
    rw [List.getElem?_map] at hj
    obtain ⟨s, hs, rfl⟩ := Option.map_eq_some_iff.1 hj
    obtain ⟨b, off, hA, hlt, hc⟩ := Hx.out 0 hpos
    cases hA
    rw [Hb.out.cell (by rw [addr_block_]; exact hlt)]
    rw [addr_plus_]
    exact hc j s hs
  have hxb : ax.block < w1.heap.size := by
    obtain ⟨b, off, hA, hlt, hc⟩ := Hx.out 0 hpos
    cases hA
    show b < _
    omega
  have hown0 : (w1.alloc (.cells #[] 9)).ownsRow w1.heap.size 9 1 (.slice (some ⟨w1.heap.size, 0, none⟩) 0 0) 0 [] := ⟨rfl, .inr ⟨w1.heap.size, 0, #[], rfl, Nat.le_refl _, heap_alloc_new w1 _, Nat.le_refl _, Nat.zero_le _, rfl, rfl⟩⟩
  have Hxn := hide hxn
  have Hown0 := hide hown0
  clear hxn hown0
  go_region_held3 (fun w' => w'.cell? ⟨sb, 0, none⟩ = some (.pointer (some ⟨fb, 0, none⟩)))
    (first | with_reducible exact s5 | exact cell_far4 s5 hnsb _ _ _ _ | with_reducible exact s4 | with_reducible exact s3 | go_keep)
    (first
      | ((refine step_append_lies _ (by rfl) _ _ _ (by rfl) w1.heap.size 9 i0 _ 1 16 Tryz.underlying26 hi0 hz00 hz01 hz02 rfl (by omega) (.slice (some ⟨w1.heap.size, 0, none⟩) 0 0) 0 [] (by rfl) (Hown0.out.drew) ax args.length cx (args.map Value.string) (by rfl) (by simp) (news_far Hxn.out hxb _) (by simp [Value.oneCell']) hpos (by unfold maxLen; omega) (by omega) (by simp) (w1.heap.size + 1) (by simp) ?_; intro gg cap w3 hown3 hgrow hat hlt3; rw [Nat.zero_add, List.nil_append] at hown3; have hO3 := hide (off_append hgrow); have HS3 := hide (HS.out.keep hO3.out); have s3 : w3.cell? ⟨sb, 0, none⟩ = some (.pointer (some ⟨fb, 0, none⟩)) := HS3.out.set.cell 0; have hargs := own_args hown3 hbz (fun e he => (HS.out.vars e he).lt); have HPz := hide (parse_any HS3.out hargs.1 hargs.2 Hes.out HD.out (Nat.le_trans hbz hO3.out.size) hxs HR.out); clear hown3 hgrow hat hargs; rw [Nat.zero_add]))
      | (go_at_call 35; refine HPz.out.mono ?_; rintro e w4 ⟨es4, act4, A4, c4, ak4, rfl, hps, hcur, hoff⟩; have Hps := hide hps; have Hoff := hide hoff; have s4 : w4.cell? ⟨sb, 0, none⟩ = some (.pointer (some ⟨fb, 0, none⟩)) := hps.set.set.cell 0; have Hb4 := hide (iparse_below Hb0.out hO3.out hoff (by omega)); have hO4 := hide ((hO3.out.weaken (S' := fun j => w0.heap.size ≤ j) (fun _ _ h => h.elim)).trans hoff (fun _ _ h => h)); have HR4 := hide (HRes1.out.off hO4.out (by omega)); have HAns := hide (answer_any fs A c hps ((Hin.out.below Hb4.out).more Hb4.out.size) (by rw [hcur]; exact Honly.out) (by have := Hrl.out; omega) hk2.out); rw [hcur] at HAns; clear hps hcur hoff)
      | (go_at_call 34; refine HAns.out.mono ?_; rintro e w5 ⟨ga, gc, na, nc, ra, rc, ns, rfl, hpn, hin5, hr1, hr2, hr3, hb5⟩; have HR5 := hide (HR4.out.off (off_of_below (S := fun _ => False) hb5) (fun h => h)); have s5 : w5.cell? ⟨sb, 0, none⟩ = some (.pointer (some ⟨fb, 0, none⟩)) := (hb5.cell (p := ⟨sb, 0, none⟩) (lt_of_cell s4)).trans s4; have d0 : w5.cell? ⟨w.heap.size, 0, none⟩ = some (.slice none 0 0) := HR5.out.cell 0; have d1 : w5.cell? ⟨w.heap.size, 1, none⟩ = some (.slice none 0 0) := HR5.out.cell 1; have d2 : w5.cell? ⟨w.heap.size, 2, none⟩ = some (.slice none 0 0) := HR5.out.cell 2; have d3 : w5.cell? ⟨w.heap.size, 3, none⟩ = some (.int .i64 0) := HR5.out.cell 3; have g0 := HR5.out.frozen 0; have g1 := HR5.out.frozen 1; have g2 := HR5.out.frozen 2; have g3 := HR5.out.frozen 3; have HA5 := hide (AnsParts.mk hpn hin5 hr1 hr2 hr3 hb5); clear hpn hin5 hr1 hr2 hr3 hb5; unfold ansCells))
  go_wp2_with fail
  refine bodyPost_ret (results_cell_row rfl _ _ w.heap.size 31 (ansCells (.slice ga cur'.length gc) (.slice na ns.length nc) (.slice ra rest.length rc) 0) (0, 0) _ rfl ((((HR5.out.set_ 0 (.slice ga cur'.length gc)).set_ 1 (.slice na ns.length nc)).set_ 2 (.slice ra rest.length rc)).set_ 3 (.int .i64 0)) Tryz.underlying31 rfl (by kernel_rfl)) rfl ?_
  exact iparse_close HA5.out Hb4.out (((((Off.refl (fun j => j = w.heap.size) w5).setCell (p := ⟨w.heap.size, 0, none⟩) (fun _ => rfl) (.slice ga cur'.length gc)).setCell (p := ⟨w.heap.size, 1, none⟩) (fun _ => rfl) (.slice na ns.length nc)).setCell (p := ⟨w.heap.size, 2, none⟩) (fun _ => rfl) (.slice ra rest.length rc)).setCell (p := ⟨w.heap.size, 3, none⟩) (fun _ => rfl) (.int .i64 0)) HR4.out.lt
set_option maxHeartbeats 1000000 in
set_option maxRecDepth 100000 in
theorem iparse_empty (A : Option Addr) (c : Nat) (fs : List FD) (ax : Addr) (cx : Nat) (w : World) (hin : FlagsIn w w.heap.size A fs) (hok : ∀ f ∈ fs, f.Ok) (hD : DefinedP fs) (ht : TabOk w)
    {cur' : List FD} {ss' rest : List ByteArray} {ended : Bool} (hR : Reads fs fs [] [] cur' ss' rest ended) :
    Calls Tryz.prog 16 #[.slice A fs.length c, .slice (some ax) 0 cx] w (AnsPost cur' ss' rest w) := by
  have Hin := hide hin
  have Hok := hide hok
  have Htb := hide ht
  have hk2 : Hid (∀ (k : Nat) (hk : k < fs.length), 0 ≤ fs[k].kind ∧ fs[k].kind ≤ 2) := hide (fun k hk => ⟨(hD.fine _ (List.getElem_mem hk)).kind0, (hD.fine _ (List.getElem_mem hk)).kind2⟩)
  have Honly := hide (reads_only hR (OnlyAll.refl fs))
  have Hrl := hide (reads_len hR)
  have HD := hide hD
  have HR := hide hR
  clear hin hok hD ht hR
  go_enter Tryz.func16, Tryz.ntmps16
  go_upto_region 1 with fail
  go_name_world w0 hw0
  have hz0 : w.heap.size + 1 ≤ w0.heap.size := by rw [← hw0]; simp
  have HRes : Hid (Blk w0 w.heap.size 31 (ansCells (.slice none 0 0) (.slice none 0 0) (.slice none 0 0) 0)) := by rw [← hw0]; exact hide (Blk.new w _ _)
  have Hba : Hid (Below w.heap.size w w0) := by rw [← hw0]; exact hide ((Below.refl _ _).alloc (Nat.le_refl _) _)
  clear hw0
  have HDef := hide (define_any A c fs w0 ((Hin.out.below Hba.out).more (by omega)) Hok.out HD.out (Htb.out.below Hba.out Htb.out.lt))
  go_wp2_with (first | (go_at_call 32; refine HDef.out.mono ?_; rintro e w1 ⟨sb, fb, es, mv, vb, vn, vt, rfl, hes, hS, hb⟩) | fail)
  have hb1 := hb
  have Hb0 := hide (Hba.out.trans (hb.mono (by omega)))
  have HRes1 := hide (HRes.out.off (off_of_below (S := fun _ => False) hb) (fun h => h))
  have hnsb : ¬ (sb = w.heap.size) := fun e => by have := hS.setB; omega
  have s0 : w1.cell? ⟨sb, 0, none⟩ = some (.pointer (some ⟨fb, 0, none⟩)) := hS.set.cell 0
  have hsl := hS.set.lt
  have HS := hide hS
  have Hes := hide hes
  have Hb := Hb0
  have hbz := hb.size
  have hbzz := Hb0.out.size
  clear hS hes hb hb1 HDef
  obtain ⟨i0, hi0, hz00, hz01, hz02⟩ := info_parts Tryz.infoText
  have hown0 : (w1.alloc (.cells #[] 9)).ownsRow w1.heap.size 9 1 (.slice (some ⟨w1.heap.size, 0, none⟩) 0 0) 0 [] := ⟨rfl, .inr ⟨w1.heap.size, 0, #[], rfl, Nat.le_refl _, heap_alloc_new w1 _, Nat.le_refl _, Nat.zero_le _, rfl, rfl⟩⟩
  have Hown0 := hide hown0
  have hO3 := hide (((Off.refl (fun _ => False) w1).alloc (.cells #[] 9)).drew)
  have HS3 := hide (HS.out.keep hO3.out)
  have HPz := hide (parse_any (A := some ⟨w1.heap.size, 0, none⟩) (L := []) (c := 0) HS3.out ⟨_, 0, #[], rfl, ⟨hbz, fun e he h => by have := (HS.out.vars e he).lt; omega⟩, (Blk.new w1 _ _).drew, fun j s hj => by simp at hj⟩ (Nat.le_refl _) Hes.out HD.out (Nat.le_trans hbz hO3.out.size) (fun s hs => by cases hs) HR.out)
  have s3 : ((w1.alloc (.cells #[] 9)).drew).cell? ⟨sb, 0, none⟩ = some (.pointer (some ⟨fb, 0, none⟩)) := HS3.out.set.cell 0
  clear hown0
  go_region_held3 (fun w' => w'.cell? ⟨sb, 0, none⟩ = some (.pointer (some ⟨fb, 0, none⟩)))
    (first | with_reducible exact s5 | exact cell_far4 s5 hnsb _ _ _ _ | with_reducible exact s4 | with_reducible exact s3 | go_keep)
    (first
      | ((refine step_append_room (by rfl) _ _ _ (by rfl) 9 i0 1 Tryz.underlying26 hi0 hz01 w1.heap.size 0 0 0 (by rfl) ax 0 cx [] (by rfl) rfl (fun j u hj => by cases hj) (fun u hu => by cases hu) (Nat.le_refl _) (fun j hj => absurd hj (Nat.not_lt_zero j)) ?_; rw [setCells_nil]))
      | (go_at_call 35; refine HPz.out.mono ?_; rintro e w4 ⟨es4, act4, A4, c4, ak4, rfl, hps, hcur, hoff⟩; have Hps := hide hps; have Hoff := hide hoff; have s4 : w4.cell? ⟨sb, 0, none⟩ = some (.pointer (some ⟨fb, 0, none⟩)) := hps.set.set.cell 0; have Hb4 := hide (iparse_below Hb0.out hO3.out hoff (by omega)); have hO4 := hide ((hO3.out.weaken (S' := fun j => w0.heap.size ≤ j) (fun _ _ h => h.elim)).trans hoff (fun _ _ h => h)); have HR4 := hide (HRes1.out.off hO4.out (by omega)); have HAns := hide (answer_any fs A c hps ((Hin.out.below Hb4.out).more Hb4.out.size) (by rw [hcur]; exact Honly.out) (by have := Hrl.out; simp only [List.length_nil] at this; omega) hk2.out); rw [hcur] at HAns; clear hps hcur hoff)
      | (go_at_call 34; refine HAns.out.mono ?_; rintro e w5 ⟨ga, gc, na, nc, ra, rc, ns, rfl, hpn, hin5, hr1, hr2, hr3, hb5⟩; have HR5 := hide (HR4.out.off (off_of_below (S := fun _ => False) hb5) (fun h => h)); have s5 : w5.cell? ⟨sb, 0, none⟩ = some (.pointer (some ⟨fb, 0, none⟩)) := (hb5.cell (p := ⟨sb, 0, none⟩) (lt_of_cell s4)).trans s4; have d0 : w5.cell? ⟨w.heap.size, 0, none⟩ = some (.slice none 0 0) := HR5.out.cell 0; have d1 : w5.cell? ⟨w.heap.size, 1, none⟩ = some (.slice none 0 0) := HR5.out.cell 1; have d2 : w5.cell? ⟨w.heap.size, 2, none⟩ = some (.slice none 0 0) := HR5.out.cell 2; have d3 : w5.cell? ⟨w.heap.size, 3, none⟩ = some (.int .i64 0) := HR5.out.cell 3; have g0 := HR5.out.frozen 0; have g1 := HR5.out.frozen 1; have g2 := HR5.out.frozen 2; have g3 := HR5.out.frozen 3; have HA5 := hide (AnsParts.mk hpn hin5 hr1 hr2 hr3 hb5); clear hpn hin5 hr1 hr2 hr3 hb5; unfold ansCells))
  go_wp2_with fail
  refine bodyPost_ret (results_cell_row rfl _ _ w.heap.size 31 (ansCells (.slice ga cur'.length gc) (.slice na ns.length nc) (.slice ra rest.length rc) 0) (0, 0) _ rfl ((((HR5.out.set_ 0 (.slice ga cur'.length gc)).set_ 1 (.slice na ns.length nc)).set_ 2 (.slice ra rest.length rc)).set_ 3 (.int .i64 0)) Tryz.underlying31 rfl (by kernel_rfl)) rfl ?_
  exact iparse_close HA5.out Hb4.out (((((Off.refl (fun j => j = w.heap.size) w5).setCell (p := ⟨w.heap.size, 0, none⟩) (fun _ => rfl) (.slice ga cur'.length gc)).setCell (p := ⟨w.heap.size, 1, none⟩) (fun _ => rfl) (.slice na ns.length nc)).setCell (p := ⟨w.heap.size, 2, none⟩) (fun _ => rfl) (.slice ra rest.length rc)).setCell (p := ⟨w.heap.size, 3, none⟩) (fun _ => rfl) (.int .i64 0)) HR4.out.lt
set_option maxHeartbeats 1000000 in
set_option maxRecDepth 100000 in
theorem iparse_nil (A : Option Addr) (c : Nat) (fs : List FD)  (w : World) (hin : FlagsIn w w.heap.size A fs) (hok : ∀ f ∈ fs, f.Ok) (hD : DefinedP fs) (ht : TabOk w)
    {cur' : List FD} {ss' rest : List ByteArray} {ended : Bool} (hR : Reads fs fs [] [] cur' ss' rest ended) :
    Calls Tryz.prog 16 #[.slice A fs.length c, .slice none 0 0] w (AnsPost cur' ss' rest w) := by
  have Hin := hide hin
  have Hok := hide hok
  have Htb := hide ht
  have hk2 : Hid (∀ (k : Nat) (hk : k < fs.length), 0 ≤ fs[k].kind ∧ fs[k].kind ≤ 2) := hide (fun k hk => ⟨(hD.fine _ (List.getElem_mem hk)).kind0, (hD.fine _ (List.getElem_mem hk)).kind2⟩)
  have Honly := hide (reads_only hR (OnlyAll.refl fs))
  have Hrl := hide (reads_len hR)
  have HD := hide hD
  have HR := hide hR
  clear hin hok hD ht hR
  go_enter Tryz.func16, Tryz.ntmps16
  go_upto_region 1 with fail
  go_name_world w0 hw0
  have hz0 : w.heap.size + 1 ≤ w0.heap.size := by rw [← hw0]; simp
  have HRes : Hid (Blk w0 w.heap.size 31 (ansCells (.slice none 0 0) (.slice none 0 0) (.slice none 0 0) 0)) := by rw [← hw0]; exact hide (Blk.new w _ _)
  have Hba : Hid (Below w.heap.size w w0) := by rw [← hw0]; exact hide ((Below.refl _ _).alloc (Nat.le_refl _) _)
  clear hw0
  have HDef := hide (define_any A c fs w0 ((Hin.out.below Hba.out).more (by omega)) Hok.out HD.out (Htb.out.below Hba.out Htb.out.lt))
  go_wp2_with (first | (go_at_call 32; refine HDef.out.mono ?_; rintro e w1 ⟨sb, fb, es, mv, vb, vn, vt, rfl, hes, hS, hb⟩) | fail)
  have hb1 := hb
  have Hb0 := hide (Hba.out.trans (hb.mono (by omega)))
  have HRes1 := hide (HRes.out.off (off_of_below (S := fun _ => False) hb) (fun h => h))
  have hnsb : ¬ (sb = w.heap.size) := fun e => by have := hS.setB; omega
  have s0 : w1.cell? ⟨sb, 0, none⟩ = some (.pointer (some ⟨fb, 0, none⟩)) := hS.set.cell 0
  have hsl := hS.set.lt
  have HS := hide hS
  have Hes := hide hes
  have Hb := Hb0
  have hbz := hb.size
  have hbzz := Hb0.out.size
  clear hS hes hb hb1 HDef
  obtain ⟨i0, hi0, hz00, hz01, hz02⟩ := info_parts Tryz.infoText
  have hown0 : (w1.alloc (.cells #[] 9)).ownsRow w1.heap.size 9 1 (.slice (some ⟨w1.heap.size, 0, none⟩) 0 0) 0 [] := ⟨rfl, .inr ⟨w1.heap.size, 0, #[], rfl, Nat.le_refl _, heap_alloc_new w1 _, Nat.le_refl _, Nat.zero_le _, rfl, rfl⟩⟩
  have Hown0 := hide hown0
  have hO3 := hide (((Off.refl (fun _ => False) w1).alloc (.cells #[] 9)).drew)
  have HS3 := hide (HS.out.keep hO3.out)
  have HPz := hide (parse_any (A := some ⟨w1.heap.size, 0, none⟩) (L := []) (c := 0) HS3.out ⟨_, 0, #[], rfl, ⟨hbz, fun e he h => by have := (HS.out.vars e he).lt; omega⟩, (Blk.new w1 _ _).drew, fun j s hj => by simp at hj⟩ (Nat.le_refl _) Hes.out HD.out (Nat.le_trans hbz hO3.out.size) (fun s hs => by cases hs) HR.out)
  have s3 : ((w1.alloc (.cells #[] 9)).drew).cell? ⟨sb, 0, none⟩ = some (.pointer (some ⟨fb, 0, none⟩)) := HS3.out.set.cell 0
  clear hown0
  go_region_held3 (fun w' => w'.cell? ⟨sb, 0, none⟩ = some (.pointer (some ⟨fb, 0, none⟩)))
    (first | with_reducible exact s5 | exact cell_far4 s5 hnsb _ _ _ _ | with_reducible exact s4 | with_reducible exact s3 | go_keep)
    (first
      | ((refine step_append_none (by rfl) _ _ _ (by rfl) w1.heap.size 9 i0 1 Tryz.underlying26 hi0 (.slice (some ⟨w1.heap.size, 0, none⟩) 0 0) 0 [] (by rfl) Hown0.out.drew (by rfl) ?_))
      | (go_at_call 35; refine HPz.out.mono ?_; rintro e w4 ⟨es4, act4, A4, c4, ak4, rfl, hps, hcur, hoff⟩; have Hps := hide hps; have Hoff := hide hoff; have s4 : w4.cell? ⟨sb, 0, none⟩ = some (.pointer (some ⟨fb, 0, none⟩)) := hps.set.set.cell 0; have Hb4 := hide (iparse_below Hb0.out hO3.out hoff (by omega)); have hO4 := hide ((hO3.out.weaken (S' := fun j => w0.heap.size ≤ j) (fun _ _ h => h.elim)).trans hoff (fun _ _ h => h)); have HR4 := hide (HRes1.out.off hO4.out (by omega)); have HAns := hide (answer_any fs A c hps ((Hin.out.below Hb4.out).more Hb4.out.size) (by rw [hcur]; exact Honly.out) (by have := Hrl.out; simp only [List.length_nil] at this; omega) hk2.out); rw [hcur] at HAns; clear hps hcur hoff)
      | (go_at_call 34; refine HAns.out.mono ?_; rintro e w5 ⟨ga, gc, na, nc, ra, rc, ns, rfl, hpn, hin5, hr1, hr2, hr3, hb5⟩; have HR5 := hide (HR4.out.off (off_of_below (S := fun _ => False) hb5) (fun h => h)); have s5 : w5.cell? ⟨sb, 0, none⟩ = some (.pointer (some ⟨fb, 0, none⟩)) := (hb5.cell (p := ⟨sb, 0, none⟩) (lt_of_cell s4)).trans s4; have d0 : w5.cell? ⟨w.heap.size, 0, none⟩ = some (.slice none 0 0) := HR5.out.cell 0; have d1 : w5.cell? ⟨w.heap.size, 1, none⟩ = some (.slice none 0 0) := HR5.out.cell 1; have d2 : w5.cell? ⟨w.heap.size, 2, none⟩ = some (.slice none 0 0) := HR5.out.cell 2; have d3 : w5.cell? ⟨w.heap.size, 3, none⟩ = some (.int .i64 0) := HR5.out.cell 3; have g0 := HR5.out.frozen 0; have g1 := HR5.out.frozen 1; have g2 := HR5.out.frozen 2; have g3 := HR5.out.frozen 3; have HA5 := hide (AnsParts.mk hpn hin5 hr1 hr2 hr3 hb5); clear hpn hin5 hr1 hr2 hr3 hb5; unfold ansCells))
  go_wp2_with fail
  refine bodyPost_ret (results_cell_row rfl _ _ w.heap.size 31 (ansCells (.slice ga cur'.length gc) (.slice na ns.length nc) (.slice ra rest.length rc) 0) (0, 0) _ rfl ((((HR5.out.set_ 0 (.slice ga cur'.length gc)).set_ 1 (.slice na ns.length nc)).set_ 2 (.slice ra rest.length rc)).set_ 3 (.int .i64 0)) Tryz.underlying31 rfl (by kernel_rfl)) rfl ?_
  exact iparse_close HA5.out Hb4.out (((((Off.refl (fun j => j = w.heap.size) w5).setCell (p := ⟨w.heap.size, 0, none⟩) (fun _ => rfl) (.slice ga cur'.length gc)).setCell (p := ⟨w.heap.size, 1, none⟩) (fun _ => rfl) (.slice na ns.length nc)).setCell (p := ⟨w.heap.size, 2, none⟩) (fun _ => rfl) (.slice ra rest.length rc)).setCell (p := ⟨w.heap.size, 3, none⟩) (fun _ => rfl) (.int .i64 0)) HR4.out.lt
/-- impl.Parse of arguments that are read. -/
theorem iparse_any (A : Option Addr) (c : Nat) (fs : List FD) (Ax : Option Addr) (cx : Nat) (args : List ByteArray) (w : World) (hin : FlagsIn w w.heap.size A fs) (hok : ∀ f ∈ fs, f.Ok) (hD : DefinedP fs) (ht : TabOk w) (hx : TextsIn w w.heap.size Ax args) (hnil : Ax = none → cx = 0) (hxs : ∀ s ∈ args, s.size ≤ 16777216) (hxl : args.length ≤ 100000)
    {cur' : List FD} {ss' rest : List ByteArray} {ended : Bool} (hR : Reads fs fs args [] cur' ss' rest ended) :
    Calls Tryz.prog 16 #[.slice A fs.length c, .slice Ax args.length cx] w (AnsPost cur' ss' rest w) := by
  rcases args with _ | ⟨s, r⟩
  · rcases Ax with _ | ax
    · rw [hnil rfl]
      exact iparse_nil A c fs w hin hok hD ht hR
    · exact iparse_empty A c fs ax cx w hin hok hD ht hR
  · obtain ⟨b, off, rfl, _⟩ := hx 0 (by simp)
    exact iparse_some A c fs _ cx (s :: r) w hin hok hD ht hx hxs hxl (by simp) hR
end Go.Proofs.YtpcmiaablanmeaaGreatDoor
