/- impl.Names gives the names back in order. -/
import Derived.Test.YtpcmiaablanmeaaDef
import Derived.Test.YtpcmiaablanmeaaVisit
import Derived.Test.YtpcmiaablanmeaaFits
import Derived.Test.YtpcmiaablanmeaaDefined
import Derived.Sort.OwnSorted
namespace Go.Proofs.Ytpcmiaablanmeaa
open Go.RowKit Go.Lib Go.Sort Go.Maps

/-- Texts in order. -/
def InOrder (ns : List ByteArray) : Prop := ns.Pairwise fun s t => s.data.toList ≤ t.data.toList

theorem names_nodup {fs : List FD} (hD : DefinedP fs) : (fs.map (·.name)).Nodup := by
  rw [List.nodup_iff_pairwise_ne, List.pairwise_map, List.pairwise_iff_getElem]
  intro i j hi hj hij
  exact hD.apart j i _ _ hij (List.getElem?_eq_getElem hj) (List.getElem?_eq_getElem hi)

theorem kps_names (es : List Ent) : (kpsOf es).map (·.1) = (es.map fun e => e.f.name).reverse := by
  simp [kpsOf, Function.comp_def]

theorem kps_nodup {es : List Ent} {fs : List FD} (hes : es.map (·.f) = fs) (hD : DefinedP fs) : ((kpsOf es).map (·.1)).Nodup := by
  rw [kps_names]
  have := names_nodup hD
  rw [← hes, List.map_map] at this
  exact (List.reverse_perm _).symm.nodup this

theorem kps_short {es : List Ent} {fs : List FD} (hes : es.map (·.f) = fs) (hD : DefinedP fs) : (kpsOf es).length < 2000 := by
  have h := congrArg List.length hes
  have := hD.len
  simp [kpsOf] at h ⊢
  omega

theorem kps_cells {w : World} {B sb fb : Nat} {es nb nn nt : List Ent} {u : Value} {parsed : Bool} {act mv args sl vb vn vt : Value} (h : SetW w B sb fb es nb nn nt u parsed act mv args sl vb vn vt) : ∀ p ∈ kpsOf es, w.cell? ⟨p.2, 0, none⟩ = some (.string p.1) := fun p hp => by
  simp only [kpsOf, List.mem_map, List.mem_reverse] at hp
  obtain ⟨e, he, rfl⟩ := hp
  exact (h.flags e he).cell 0

theorem kps_far {w : World} {B sb fb : Nat} {es nb nn nt : List Ent} {u : Value} {parsed : Bool} {act mv args sl vb vn vt : Value} (h : SetW w B sb fb es nb nn nt u parsed act mv args sl vb vn vt) {ob : Nat} (hob : ob < B) : ∀ p ∈ kpsOf es, p.2 ≠ ob := fun p hp => by
  simp only [kpsOf, List.mem_map, List.mem_reverse] at hp
  obtain ⟨e, he, rfl⟩ := hp
  have := (h.flagsB e he).1
  simp only
  omega

/-- A list of texts that a call has made. -/
def TextsPost (fs : List FD) (w : World) (e : Ending) (w' : World) : Prop :=
  ∃ (v : Value) (ns : List ByteArray), e = .returned v ∧ ns.Perm (fs.map (·.name)) ∧ InOrder ns ∧ w'.ownsRow w.heap.size 9 1 v ns.length (ns.map Value.string) ∧ Below w.heap.size w w'

set_option maxHeartbeats 1000000 in
set_option maxRecDepth 100000 in
theorem names_any (A : Option Addr) (c : Nat) (fs : List FD) (w : World) (hin : FlagsIn w w.heap.size A fs) (hok : ∀ f ∈ fs, f.Ok) (hD : DefinedP fs) (ht : TabOk w) :
    Calls Try.prog 10 #[.slice A fs.length c] w (TextsPost fs w) := by
  have hba : Below w.heap.size w (w.alloc (.cells #[.slice none 0 0] 27)) := (Below.refl _ _).alloc (Nat.le_refl _) _
  have HDef := hide (define_any A c fs (w.alloc (.cells #[.slice none 0 0] 27)) ((hin.below hba).more (by simp)) hok hD (ht.below hba ht.lt))
  have HD := hide hD
  clear hin hok hD ht
  go_enter Try.func10, Try.ntmps10
  go_wp2_with (first
    | (go_at_call 14; refine HDef.out.mono ?_; rintro e w1 ⟨sb, fb, es, mv, vb, vn, vt, rfl, hes, hS, hb⟩; have HS := hide hS; have Hb := hide hb; have Hes := hide hes; clear hS hb hes; have s0 : w1.cell? ⟨sb, 0, none⟩ = some (.pointer (some ⟨fb, 0, none⟩)) := HS.out.set.cell 0)
    | (go_at_call 16; refine (visitVisitAll_any w.heap.size fb _ _ _ mv _ (kpsOf es) #[.slice none 0 0] w1 HS.out.fset HS.out.map (kps_nodup Hes.out HD.out) (kps_short Hes.out HD.out) (kps_cells HS.out) ((Blk.new w 27 #[.slice none 0 0]).off (off_of_below (S := fun _ => False) Hb.out) (fun h => h)) rfl (kps_far HS.out (by simp))).mono ?_; rintro e w2 ⟨rfl, v, ks, hp, hby, hob, hown, ho⟩; have r0 : w2.cell? ⟨w.heap.size, 0, none⟩ = some v := hob.cell 0; have HO := hide ho; have HW := hide hown; clear ho hown hob)
    | go_in)
  go_ret
  refine ⟨v, ks.map (·.1), rfl, ?_, ?_, ?_, ?_⟩
  · have h := hp.map (·.1)
    rw [kps_names] at h
    refine h.trans ((List.reverse_perm _).trans ?_)
    rw [← Hes.out, List.map_map]
    exact List.Perm.refl _
  · exact List.pairwise_map.2 hby
  · have h := own_weak HW.out (B' := w.heap.size) (Nat.le_trans (by simp) Hb.out.size)
    rw [List.length_map, List.map_map]
    exact h
  · have hsz : (w.alloc (.cells #[.slice none 0 0] 27)).heap.size = w.heap.size + 1 := by simp
    have h1 := Hb.out.size
    exact (hba.trans (Hb.out.mono (by omega))).trans (HO.out.below (fun i _ hi => by omega) (by omega))

def txt (l : List UInt8) : ByteArray := ⟨l.toArray⟩
theorem txt_data (s : ByteArray) : txt s.data.toList = s := rfl
theorem enc_txt (l : List (List UInt8)) : l.map encStr = (l.map txt).map Value.string := by
  rw [List.map_map]; rfl

/-- slices.Sort of a list that the call has made. -/
theorem sortTexts (xs : List ByteArray) (v : Value) {B : Nat} (w : World) (hown : w.ownsRow B 9 1 v xs.length (xs.map Value.string)) (hl : xs.length ≤ 4000) :
    Calls Try.prog 18 #[v] w fun e w' => e = .returned (.tuple #[]) ∧ ∃ ns : List ByteArray, ns.Perm xs ∧ InOrder ns ∧ w'.ownsRow B 9 1 v xs.length (ns.map Value.string) ∧ w.grownBy w' v.ownBlock := by
  rcases hown.2 with ⟨rfl, h0⟩ | ⟨g, cap, cur, rfl, hg, hb, hn, hcap, hcs, htk⟩
  · have hx : xs = [] := List.eq_nil_of_length_eq_zero h0
    subst hx
    refine (Try.slices_Sort_string_none none 0 w).mono ?_
    rintro e w' ⟨rfl, rfl⟩
    exact ⟨rfl, [], List.Perm.refl _, List.Pairwise.nil, hown, ⟨rfl, rfl, rfl, Nat.le_refl _, fun _ _ _ => rfl⟩⟩
  · have hss : (xs.map fun s => s.data.toList).map encStr = xs.map Value.string := by rw [List.map_map]; rfl
    have hsl : (xs.map fun s => s.data.toList).length = xs.length := by simp
    have hS := Try.slices_Sort_string g 0 cap (xs.map fun s => s.data.toList) w (holds_of_block hb (by rw [hss, hsl, ← htk, Nat.mul_one])) (Array.getElem?_eq_some_iff.1 hb).1 (by omega)
    rw [hsl] at hS
    refine Calls.mono hS ?_
    rintro e w' ⟨rfl, n, os, rfl⟩
    generalize hR : ((xs.map fun s => s.data.toList).mergeSort fun x y => decide (x ≤ y)) = R
    have hRp : R.Perm (xs.map fun s => s.data.toList) := by rw [← hR]; exact List.mergeSort_perm _ _
    have hRs : R.Pairwise fun x y => decide (x ≤ y) = true := by
      rw [← hR]
      exact List.pairwise_mergeSort (fun a b c h1 h2 => by simp at *; exact List.le_trans h1 h2) (fun a b => by simp; exact List.le_total _ _) _
    refine ⟨rfl, R.map txt, ?_, ?_, ?_, grownBy_sorted _⟩
    · have h := hRp.map txt
      rw [List.map_map] at h
      exact h.trans (by rw [show (txt ∘ fun s : ByteArray => s.data.toList) = id from rfl, List.map_id])
    · exact List.pairwise_map.2 (hRs.imp fun {x y} h => of_decide_eq_true h)
    · have h := ownsRow_sorted (os := os) (n := n) (ts := R) (ss := xs.map fun s => s.data.toList) hRp.length_eq hg hb (by rw [hsl]; exact hn) hcap hcs
      rw [hsl, enc_txt] at h
      exact h

set_option maxHeartbeats 1000000 in
set_option maxRecDepth 100000 in
theorem specNames_any (A : Option Addr) (c : Nat) (fs : List FD) (w : World) (hl : fs.length ≤ 100) (hin : FlagsIn w w.heap.size A fs) :
    Calls Try.prog 11 #[.slice A fs.length c] w (TextsPost fs w) := by
  obtain ⟨i0, hi0, hz00, hz01, hz02⟩ := info_parts Try.infoString
  go_enter Try.func11, Try.ntmps11
  go_wp2
  go_loopw [3, 8] (fun v i wr => ∃ k : Nat, k ≤ fs.length ∧ i = .int .i64 k ∧ wr.ownsRow w.heap.size 9 1 v k ((fs.take k).map fun f => Value.string f.name) ∧ Below w.heap.size w wr) (fun _ i _ => fs.length - (intOf i).toNat)
  case atStart => exact ⟨0, Nat.zero_le _, rfl, World.ownsRow_nil _ _ _ _, Below.refl _ _⟩
  case round =>
    obtain ⟨k, hk, rfl, hown, hb⟩ := hrel
    have hsz := hb.size
    by_cases hlt : k < fs.length
    · obtain ⟨b, off, rfl, hB, hc⟩ := hin k hlt
      have hf : fs[k]? = some fs[k] := List.getElem?_eq_getElem hlt
      obtain ⟨c0, c1, c2, c3, c4⟩ := (hc k _ hf).below hb hB
      clear hc hin
      go_upto_region 5 with fail
      go_name_world w1 hw1
      have hx1 : Blk w1 wr.heap.size 30 #[.string fs[k].name, .int .i64 fs[k].kind, .bool fs[k].on, .int .i64 fs[k].num, .string fs[k].text] := by rw [← hw1]; exact Blk.new _ _ _
      have hown1 : w1.ownsRow w.heap.size 9 1 u3 k ((fs.take k).map fun f => Value.string f.name) := by rw [← hw1]; exact hown.alloc _
      have hb1 : Below w.heap.size w w1 := by rw [← hw1]; exact hb.alloc hsz _
      have hsz1 := hb1.size
      have e0 : w1.cell? ⟨wr.heap.size, 0, none⟩ = some (.string fs[k].name) := hx1.cell 0
      clear hw1 hown hb c0 c1 c2 c3 c4 hx1
      go_wp2_with (first
        | (at_builtin; refine wpList_append_own _ rfl _ _ 27 rfl w.heap.size 9 i0 (.string ⟨#[]⟩) 1 16 Try.underlying27 hi0 hz00 hz01 hz02 rfl (by decide) u3 k _ rfl (hown1.alloc _) ⟨w1.heap.size, 0, none⟩ 1 1 [.string fs[k].name] rfl rfl (cell_one_new _ _ _) (fun u hu => by simp at hu; subst hu; rfl) (by unfold maxLen; omega) (by omega) (by simp; omega) ?_; intro v' x0 hown2 hgr hni; clear hni; have HO := hide hown2; have HB := hide ((hb1.alloc hsz1 (.cells #[.string fs[k].name] 9)).grown hgr (by simp; omega) (fun j hj => (own_blk hown1 hj).1)); clear hown2 hgr)
        | go_in)
      go_roundw
      case rel =>
        refine ⟨k + 1, by omega, by go_num, ?_, HB.out⟩
        have h := HO.out
        rw [List.take_add_one, hf, List.map_append]
        exact h
      case measure => simp [intOf]; omega
    · have hke : k = fs.length := by omega
      subst hke
      rw [List.take_length] at hown
      have hS := hide (sortTexts (fs.map (·.name)) u3 wr (by rw [List.length_map, List.map_map]; exact hown) (by rw [List.length_map]; omega))
      have Hlow : Hid (∀ j, u3.ownBlock = some j → w.heap.size ≤ j) := fun j hj => (own_blk hown hj).1
      have HB := hide hb
      clear hown hb
      go_wp2_with (first | (go_at_call 18; refine hS.out.mono ?_; rintro e w3 ⟨rfl, ns, hp, hby, ho, hg3⟩) | go_in)
      go_ret
      exact ⟨u3, ns, rfl, hp, hby, by rw [hp.length_eq]; exact ho, HB.out.grown hg3 hsz Hlow.out⟩

theorem inOrder_eq {ms ns : List ByteArray} (h : ms.Perm ns) (h1 : InOrder ms) (h2 : InOrder ns) : ms = ns :=
  List.Perm.eq_of_pairwise (le := fun s t : ByteArray => s.data.toList ≤ t.data.toList) (fun _ _ _ _ h1 h2 => data_inj (List.le_antisymm h1 h2)) h1 h2 h

theorem grown_of_below {w w' : World} (h : Below w.heap.size w w') : w.grownBy w' none := ⟨h.os, h.tape, h.output, h.size, fun i hi _ => h.block i hi⟩

/-- Two lists that the calls have made are compared. -/
theorem equal_own (v1 v2 : Value) (B1 B2 : Nat) (ns : List ByteArray) (w : World) (h1 : w.ownsRow B1 9 1 v1 ns.length (ns.map Value.string)) (h2 : w.ownsRow B2 9 1 v2 ns.length (ns.map Value.string)) (hl : ns.length ≤ 4000) :
    Calls Try.prog 9 #[v1, v2] w fun e w' => e = .returned (.bool true) ∧ Below w.heap.size w w' := by
  have hcell : ∀ (g : Nat) (cur : Array Value), w.heap[g]? = some (.cells cur 9 (0, 0)) → cur.toList.take (ns.length * 1) = ns.map Value.string → ∀ j, j < ns.length → w.cell? ⟨g, 0 + j, none⟩ = some (.string (ns.getD j ByteArray.empty)) := fun g cur hb ht j hj => by
    have h := congrArg (fun l => l[j]?) ht
    simp only [Nat.mul_one] at h
    rw [List.getElem?_take_of_lt hj, List.getElem?_map, List.getElem?_eq_getElem hj, Array.getElem?_toList] at h
    simp only [World.cell?, hb, Nat.zero_add, h, List.getD_eq_getElem?_getD, List.getElem?_eq_getElem hj]
    rfl
  rcases h1.2 with ⟨rfl, h0⟩ | ⟨g1, c1, cur1, rfl, _, hb1, _, _, _, ht1⟩
  · have hx : ns = [] := List.eq_nil_of_length_eq_zero h0
    subst hx
    rcases h2.2 with ⟨rfl, _⟩ | ⟨g2, c2, cur2, rfl, _, hb2, _, _, _, ht2⟩
    · refine (Try.slices_Equal_string_empty none none 0 0 0 w (by omega)).mono ?_
      rintro e w' ⟨rfl, rfl⟩
      exact ⟨rfl, Below.refl _ _⟩
    · refine (Try.slices_Equal_string_empty none (some ⟨g2, 0, none⟩) 0 0 c2 w (by omega)).mono ?_
      rintro e w' ⟨rfl, rfl⟩
      exact ⟨rfl, Below.refl _ _⟩
  · rcases h2.2 with ⟨rfl, h0⟩ | ⟨g2, c2, cur2, rfl, _, hb2, _, _, _, ht2⟩
    · have hx : ns = [] := List.eq_nil_of_length_eq_zero h0
      subst hx
      refine (Try.slices_Equal_string_empty (some ⟨g1, 0, none⟩) none c1 0 0 w (by omega)).mono ?_
      rintro e w' ⟨rfl, rfl⟩
      exact ⟨rfl, Below.refl _ _⟩
    · refine (Try.slices_Equal_string g1 0 ns.length c1 g2 0 ns.length c2 ns ns w (Nat.le_refl _) (Nat.le_refl _) (by omega) (by omega) (hcell _ _ hb1 ht1) (hcell _ _ hb2 ht2)).mono ?_
      rintro e w' ⟨rfl, q, rfl⟩
      exact ⟨ret_bool (by simp), rfl, rfl, rfl, Nat.le_refl _, fun _ _ => rfl⟩

/-- The law's walk: true, and nothing that was there has turned. -/
def NamesLaw (w : World) (e : Ending) (w' : World) : Prop := e = .returned (.bool true) ∧ Below w.heap.size w w'

set_option maxHeartbeats 1000000 in
theorem law_names (A : Option Addr) (c : Nat) (fs : List FD) (w : World) (hl : fs.length ≤ 9223372036854775807) (hlc : fs.length ≤ c) (hin : FlagsIn w w.heap.size A fs) (hok : ∀ f ∈ fs, f.Ok) (ht : TabOk w) :
    Calls Try.prog 4 #[.slice A fs.length c] w (NamesLaw w) := by
  have Hin := hide hin
  have Hok := hide hok
  have Ht := hide ht
  clear hin hok ht
  by_cases hf1 : fits1 fs = true
  · go_enter Try.func4, Try.ntmps4
    go_wp2_with (go_at_call 5; refine (zzFits1_any A c fs _ hl Hin.out Hok.out).mono ?_; rintro e w1 ⟨rfl, hb1⟩)
    have hin1 := hide ((Hin.out.below hb1).more hb1.size)
    refine (defined_any A c fs w1 hl hlc hin1.out Hok.out).mono ?_
    rintro e w2 ⟨b, rfl, hD, hb2⟩
    have HD := hide hD
    have hb12 := hide (below_call hb1 hb1.size hb2)
    have hin2 := hide ((Hin.out.below hb12.out).more hb12.out.size)
    have ht2 := hide (Ht.out.below hb12.out Ht.out.lt)
    clear hD hb1 hb2
    cases b with
    | false =>
      go_wp2_with fail
      go_ret
      exact ⟨rfl, hb12.out⟩
    | true =>
      have hDf := hide (HD.out rfl)
      clear HD
      go_wp2_with (first
        | (go_at_call 10; refine (names_any A c fs _ hin2.out Hok.out hDf.out ht2.out).mono ?_; rintro e w3 ⟨v1, n1, rfl, hp1, ho1, hr1, hb3⟩; have hb13 := hide (below_call hb12.out hb12.out.size hb3); have hin3 := hide ((Hin.out.below hb13.out).more hb13.out.size); have hr1 := hide hr1; clear hb3)
        | (go_at_call 11; refine (specNames_any A c fs _ hDf.out.len hin3.out).mono ?_; rintro e w4 ⟨v2, n2, rfl, hp2, ho2, hr2, hb4⟩; have hb14 := hide (below_call hb13.out hb13.out.size hb4); have hr3 := hide (hr1.out.kept (grown_of_below hb4) (Classical.em _)); have hq := inOrder_eq (hp1.trans hp2.symm) ho1 ho2; have hr2 := hide hr2; have hnl := hp2.length_eq; have hdl := hDf.out.len; subst hq; clear hb4 hp1 hp2 ho1 ho2 hr1)
        | (go_at_call 9; refine (equal_own v1 v2 _ _ _ _ hr3.out hr2.out (by rw [hnl, List.length_map]; omega)).mono ?_; rintro e w5 ⟨rfl, hb5⟩; have hb15 := hide (below_call hb14.out hb14.out.size hb5)))
      go_ret
      exact ⟨rfl, hb15.out⟩
  · have hf1' : fits1 fs = false := by simpa using hf1
    clear hf1
    go_enter Try.func4, Try.ntmps4
    go_wp2_with (go_at_call 5; refine (zzFits1_any A c fs _ hl Hin.out Hok.out).mono ?_; rintro e w1 ⟨rfl, hb1⟩)
    go_ret
    exact ⟨rfl, by assumption⟩
end Go.Proofs.Ytpcmiaablanmeaa
