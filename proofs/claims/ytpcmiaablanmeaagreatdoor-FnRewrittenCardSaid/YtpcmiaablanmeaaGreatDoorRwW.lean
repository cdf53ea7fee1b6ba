/- spec.Rewritten: what it gives is read as what it took. -/
import Derived.Test.YtpcmiaablanmeaaGreatDoorApp
import Derived.Test.YtpcmiaablanmeaaGreatDoorRwLaw
import Derived.Test.YtpcmiaablanmeaaGreatDoorSParse
import Derived.Test.YtpcmiaablanmeaaGreatDoorPWalk
namespace Go.Proofs.YtpcmiaablanmeaaGreatDoor
open Go.RowKit

theorem first_app {b t : ByteArray} (h0 : 0 < b.size) : ∃ h : 0 < (b ++ t).size, (b ++ t)[0] = b[0] := by
  have hs : (b ++ t).size = b.size + t.size := app_size _ _
  refine ⟨by omega, at_list (by omega) ?_⟩
  rw [app_data, List.getElem?_append_left (by rw [size_list]; exact h0)]
  exact list_at h0

theorem app_three (a b c d : ByteArray) : a ++ b ++ c ++ d = a ++ (b ++ c ++ d) := data_same (by simp only [app_data, List.append_assoc])

theorem emit_sign {fs cur : List FD} {hd b : ByteArray} {i : Nat} {v : ByteArray} {M ss : List ByteArray} {f f' : FD} {ss1 : List ByteArray} {curF : List FD} {ssF restF : List ByteArray} {endF : Bool} (hh : Head hd) (h0 : 0 < b.size) (h45 : b[0] ≠ 45) (h61 : b[0] ≠ 61) (hs : signOf b < 0) (hi : findOf fs b = i) (hf : cur[i]? = some f) (ht : Takes f v f') (hss : SeenStep ss f.name ss1)
    (next : Reads fs (cur.set i f') M ss1 curF ssF restF endF) : Reads fs cur ((hd ++ b ++ (⟨#[61]⟩ : ByteArray) ++ v) :: M) ss curF ssF restF endF := by
  rw [app_three]
  have hb : b ++ (⟨#[61]⟩ : ByteArray) ++ v = b ++ ((⟨#[61]⟩ : ByteArray) ++ v) := data_same (by simp only [app_data, List.append_assoc])
  obtain ⟨h1, h2⟩ := first_app (t := (⟨#[61]⟩ : ByteArray) ++ v) h0
  have hc := cut_app (b := b) (v := v)
  have hg := sign_app (v := v) hs
  rw [hb] at hc hg ⊢
  exact emit_one hh h1 (by rw [h2]; exact h45) (by rw [h2]; exact h61) (.inl ⟨b.size, hg, by rw [hc.1]; exact hi, hc.2.symm, rfl⟩) hf ht hss next

theorem sign_pos {b : ByteArray} {k : Nat} (h : signOf b = k) (h0 : 0 < b.size) (h61 : b[0] ≠ 61) : 0 < k := by
  rcases Nat.eq_zero_or_pos k with rfl | hk
  · unfold signOf at h
    cases hx : b.data.toList.findIdx? (· == 61) with
    | none => rw [hx] at h; simp at h
    | some i =>
      rw [hx] at h
      have hi0 : i = 0 := by simp at h; omega
      subst hi0
      rw [List.findIdx?_eq_some_iff_getElem] at hx
      obtain ⟨hi, he, _⟩ := hx
      have h1 := list_at h0
      rw [List.getElem?_eq_getElem hi] at h1
      rw [Option.some.inj h1] at he
      exact absurd (by simpa using he) h61
  · exact hk

theorem emit_cut {fs cur : List FD} {hd b : ByteArray} {i k : Nat} {M ss : List ByteArray} {f f' : FD} {ss1 : List ByteArray} {curF : List FD} {ssF restF : List ByteArray} {endF : Bool} (hh : Head hd) (h0 : 0 < b.size) (h45 : b[0] ≠ 45) (h61 : b[0] ≠ 61) (hs : signOf b = k) (hi : findOf fs (b.extract 0 k) = i) (hkd : ∀ f, fs[i]? = some f → f.kind ≠ 0) (hf : cur[i]? = some f) (ht : Takes f (b.extract (k + 1) b.size) f') (hss : SeenStep ss f.name ss1)
    (next : Reads fs (cur.set i f') M ss1 curF ssF restF endF) : Reads fs cur ([hd ++ b.extract 0 k, b.extract (k + 1) b.size] ++ M) ss curF ssF restF endF := by
  have hk := sign_pos hs h0 h61
  obtain ⟨hn, hkb⟩ := sign_cut hs
  have hsz : (b.extract 0 k).size = k := by rw [ByteArray.size_extract]; omega
  have h1 : 0 < (b.extract 0 k).size := by omega
  have h2 : (b.extract 0 k)[0] = b[0] := at_list h1 (by
    rw [ext_list, List.drop_zero, Nat.sub_zero, List.getElem?_take_of_lt hk]
    exact list_at h0)
  exact emit_two hh h1 (by rw [h2]; exact h45) (by rw [h2]; exact h61) (.inr (.inr ⟨hn, hi, hkd, rfl⟩)) hf ht hss next

/-- A slice of bools that came in. -/
def BoolsIn (w : World) (B : Nat) (A : Option Addr) (n : Nat) : Prop := ∀ i, i < n → ∃ b off, A = some ⟨b, off, none⟩ ∧ b < B ∧ ∃ x : Bool, w.cell? ⟨b, off + i, none⟩ = some (.bool x)
theorem BoolsIn.below {w w' : World} {B : Nat} {A : Option Addr} {n : Nat} (h : BoolsIn w B A n) (hb : Below B w w') : BoolsIn w' B A n := fun i hi => by
  obtain ⟨b, off, hA, hlt, x, hx⟩ := h i hi
  exact ⟨b, off, hA, hlt, x, (hb.cell (p := ⟨b, off + i, none⟩) hlt).trans hx⟩

set_option maxHeartbeats 400000 in
theorem at_any (A : Option Addr) (n c k B : Nat) (w : World) (h : BoolsIn w B A n) :
    Calls Tryz.prog 39 #[.slice A n c, .int .i64 k] w (AnyBool w) := by
  by_cases hk : k < n
  · obtain ⟨b, off, rfl, _, x, hx⟩ := h k hk
    have d1 : decide (k < n) = true := by simp; omega
    clear h
    go_enter Tryz.func39, Tryz.ntmps39
    go_wp2
    go_ret
    exact ⟨_, rfl, rfl⟩
  · have d1 : decide (k < n) = false := by simp; omega
    clear h
    go_enter Tryz.func39, Tryz.ntmps39
    go_wp2
    go_ret
    exact ⟨_, rfl, rfl⟩

/-- What is rewritten is read as it was. -/
def RwPost (fs : List FD) (n : Nat) (curF : List FD) (ssF restF : List ByteArray) (endF : Bool) (w : World) (e : Ending) (w' : World) : Prop :=
  ∃ (A' : Option Addr) (c' : Nat) (zs : List ByteArray), e = .returned (.slice A' zs.length c') ∧ w'.ownsRow w.heap.size 9 1 (.slice A' zs.length c') zs.length (zs.map Value.string) ∧ Reads fs fs zs [] curF ssF restF endF ∧ zs.length ≤ 2 * n ∧ (∀ s ∈ zs, s.size ≤ 16777216) ∧ Below w.heap.size w w'

theorem head_size {hd : ByteArray} (h : Head hd) : hd.size ≤ 2 := by rcases h with rfl | rfl <;> decide
theorem below_push {w w' : World} {x : Obj} {base : Nat} {v : Value} {n : Nat} {xs : List Value} (hown : w.ownsRow base 9 1 v n xs) (hb : base ≤ w.heap.size) (hg : (w.alloc x).grownBy w' v.ownBlock) : Below base w w' :=
  ((Below.refl base w).alloc hb x).grown hg (Nat.le_trans hb (((Below.refl base w).alloc hb x).size)) (fun _ hj => (own_blkN hown hj).1)

theorem texts_new2 (w : World) (s t : ByteArray) : TextsAt (w.alloc (.cells #[.string s, .string t] 9)) (some ⟨w.heap.size, 0, none⟩) [s, t] := fun i hi => by
  refine ⟨w.heap.size, 0, rfl, fun j x hj => ?_⟩
  have hj2 : j < 2 := (List.getElem?_eq_some_iff.1 hj).1
  rcases j with _ | _ | j
  · simp at hj; subst hj
    exact (Blk.new w 9 #[.string s, .string t]).cell 0
  · simp at hj; subst hj
    exact (Blk.new w 9 #[.string s, .string t]).cell 1
  · omega

/-- The loop's relation. -/
structure WRel (fs : List FD) (n : Nat) (curF : List FD) (ssF restF : List ByteArray) (endF : Bool) (w wr : World) (L : List ByteArray) (A : Option Addr) (c : Nat) (O : List ByteArray) (ov : Value) (cur : List FD) (ss : List ByteArray) : Prop where
  texts : TextsIn wr w.heap.size A L
  cap : L.length ≤ c
  nilA : A = none → c = 0
  size : ∀ s ∈ L, s.size ≤ 1048576
  own : wr.ownsRow w.heap.size 9 1 ov O.length (O.map Value.string)
  osize : ∀ s ∈ O, s.size ≤ 16777216
  few : O.length + 2 * L.length ≤ 2 * n
  reads : Reads fs cur L ss curF ssF restF endF
  pre : ∀ M, Reads fs cur M ss curF ssF restF endF → Reads fs fs (O ++ M) [] curF ssF restF endF
  same : SameNames fs cur
  below : Below w.heap.size w wr

theorem WRel.keep {fs : List FD} {n : Nat} {curF : List FD} {ssF restF : List ByteArray} {endF : Bool} {w wr w' : World} {L : List ByteArray} {A : Option Addr} {c : Nat} {O : List ByteArray} {ov : Value} {cur : List FD} {ss : List ByteArray} (h : WRel fs n curF ssF restF endF w wr L A c O ov cur ss) (ho : Off (fun _ => False) wr w') : WRel fs n curF ssF restF endF w w' L A c O ov cur ss :=
  { h with texts := h.texts.off ho h.below.size (fun _ _ h => h), own := own_offN h.own ho (fun _ _ _ _ h => h), below := h.below.trans (ho.below (B := w.heap.size) (fun _ _ h => h.elim) h.below.size) }

theorem Means.parts {fs : List FD} {b : ByteArray} {rest : List ByteArray} {i : Nat} {v : ByteArray} {rest' : List ByteArray} (h : Means fs b rest i v rest') : (∀ k : Nat, signOf b = k → findOf fs (b.extract 0 k) = i) ∧ (signOf b < 0 → findOf fs b = i) := by
  rcases h with ⟨k, hk, h2, _, _⟩ | ⟨h1, h2, _⟩ | ⟨h1, h2, _⟩
  · exact ⟨fun k' hk' => by have e : k' = k := by omega
                            subst e; exact h2, fun hn => by omega⟩
  · exact ⟨fun k' hk' => by omega, fun _ => h2⟩
  · exact ⟨fun k' hk' => by omega, fun _ => h2⟩

theorem Means.bare {fs : List FD} {b : ByteArray} {rest : List ByteArray} {i : Nat} {v : ByteArray} {rest' : List ByteArray} (h : Means fs b rest i v rest') (hk : ∀ g, fs[i]? = some g → g.kind = 0) (hi : ∃ g, fs[i]? = some g) : rest = rest' ∧ ∀ M, Means fs b M i v M := by
  rcases h with ⟨k, h1, h2, h3, rfl⟩ | ⟨h1, h2, h3, h4, rfl⟩ | ⟨h1, h2, h3, _⟩
  · exact ⟨rfl, fun M => .inl ⟨k, h1, h2, h3, rfl⟩⟩
  · exact ⟨rfl, fun M => .inr (.inl ⟨h1, h2, h3, h4, rfl⟩)⟩
  · obtain ⟨g, hg⟩ := hi
    exact absurd (hk g hg) (h3 g hg)

theorem WRel.step {fs : List FD} {n : Nat} {curF : List FD} {ssF restF : List ByteArray} {endF : Bool} {w wr : World} {s : ByteArray} {r : List ByteArray} {A : Option Addr} {c : Nat} {O : List ByteArray} {ov : Value} {cur : List FD} {ss : List ByteArray} (h : WRel fs n curF ssF restF endF w wr (s :: r) A c O ov cur ss) (h2 : ¬ s.size < 2) (h45 : hasB s 0 45 = true) (hne : s ≠ ⟨#[45, 45]⟩) :
    ∃ b i v rest' f f' ss1, Body s b ∧ Means fs b r i v rest' ∧ cur[i]? = some f ∧ Takes f v f' ∧ SeenStep ss f.name ss1 ∧ Reads fs (cur.set i f') rest' ss1 curF ssF restF endF := by
  have hr := h.reads
  generalize hL : s :: r = L at hr
  cases hr with
  | stop _ _ _ hs =>
    rcases hs s r hL.symm with h | h
    · exact absurd h h2
    · rw [h45] at h; cases h
  | term _ s' r' _ hs =>
    injection hL with e1 e2
    exact absurd (e1.trans hs) hne
  | step _ s' b r' _ i v rest' f f' ss1 _ _ _ _ hb hm hf ht hs next =>
    injection hL with e1 e2
    subst e1 e2
    exact ⟨b, i, v, rest', f, f', ss1, hb, hm, hf, ht, hs, next⟩

/-- One more round. -/
theorem WRel.push {fs : List FD} {n : Nat} {curF : List FD} {ssF restF : List ByteArray} {endF : Bool} {w wr w' : World} {s : ByteArray} {r : List ByteArray} {A : Option Addr} {c : Nat} {O : List ByteArray} {ov : Value} {cur : List FD} {ss : List ByteArray} (h : WRel fs n curF ssF restF endF w wr (s :: r) A c O ov cur ss)
    {E L' : List ByteArray} {Ar A2 : Option Addr} {cr c2 m i : Nat} {f f' : FD} {v : ByteArray} {ss1 : List ByteArray}
    (ht : TextsIn w' w.heap.size Ar L') (hcap : L'.length ≤ cr) (hnil : Ar = none → cr = 0) (hsub : ∀ x ∈ L', x ∈ r) (hm : m = O.length + E.length)
    (hown : w'.ownsRow w.heap.size 9 1 (.slice A2 m c2) m ((O ++ E).map Value.string)) (hE : ∀ x ∈ E, x.size ≤ 16777216) (hfew : E.length + 2 * L'.length ≤ 2 * r.length + 2)
    (hf : cur[i]? = some f) (htk : Takes f v f') (next : Reads fs (cur.set i f') L' ss1 curF ssF restF endF)
    (hpre : ∀ M, Reads fs (cur.set i f') M ss1 curF ssF restF endF → Reads fs cur (E ++ M) ss curF ssF restF endF) (hb : Below w.heap.size w w') :
    WRel fs n curF ssF restF endF w w' L' Ar cr (O ++ E) (.slice A2 m c2) (cur.set i f') ss1 :=
  { texts := ht, cap := hcap, nilA := hnil, size := fun x hx => h.size x (List.mem_cons_of_mem _ (hsub x hx)),
    own := by rw [List.length_append, ← hm]; exact hown,
    osize := fun x hx => (List.mem_append.1 hx).elim (h.osize x) (hE x),
    few := by have := h.few; rw [List.length_cons] at this; rw [List.length_append]; omega,
    reads := next,
    pre := fun M hM => by rw [List.append_assoc]; exact h.pre _ (hpre M hM),
    same := h.same.set hf htk.name, below := hb }

set_option maxHeartbeats 2000000 in
set_option maxRecDepth 100000 in
theorem rewritten_any (A : Option Addr) (c : Nat) (fs : List FD) (Ax : Option Addr) (cx : Nat) (args : List ByteArray) (At : Option Addr) (nt ct : Nat) (As : Option Addr) (ns cs : Nat) (w : World) (hD : fs.length ≤ 100) (_hlc : fs.length ≤ c) (hin : FlagsIn w w.heap.size A fs) (hx : TextsIn w w.heap.size Ax args) (hxc : args.length ≤ cx) (hxn : Ax = none → cx = 0) (hxs : ∀ s ∈ args, s.size ≤ 1048576) (hxl : args.length ≤ 1000)
    (ht : BoolsIn w w.heap.size At nt) (hs : BoolsIn w w.heap.size As ns) {curF : List FD} {ssF restF : List ByteArray} {endF : Bool} (hR : Reads fs fs args [] curF ssF restF endF) :
    Calls Tryz.prog 25 #[.slice A fs.length c, .slice Ax args.length cx, .slice At nt ct, .slice As ns cs] w (RwPost fs args.length curF ssF restF endF w) := by
  have hst : WRel fs args.length curF ssF restF endF w w args Ax cx [] (.slice none 0 0) fs [] := ⟨hx, hxc, hxn, hxs, World.ownsRow_nil _ _ _ _, (fun s hs => by cases hs), by simp, hR, (fun _ h => h), ⟨rfl, fun i f g h1 h2 => by rw [h1] at h2; cases h2; exact ⟨rfl, rfl⟩⟩, Below.refl _ _⟩
  have Hst := hide hst
  have Hin := hide hin
  have Ht := hide ht
  have Hs := hide hs
  clear hst hin hx hxn hR ht hs
  go_enter Tryz.func25, Tryz.ntmps25
  go_upto_block 0 with fail
  go_cut [1, 9] (fun c1 c9 w3 => ∃ L A' c' O ov cur ss, c1 = .slice A' L.length c' ∧ c9 = ov ∧ WRel fs args.length curF ssF restF endF w w3 L A' c' O ov cur ss)
  case rest =>
    obtain ⟨L, A', c', O, ov, cur, ss, rfl, rfl, hW⟩ := hcut
    have HW := hide hW
    have hfew := hW.few
    have hbz := hW.below.size
    clear hW Hst
    go_wp2_with (first
      | (at_builtin; refine append_texts rfl _ _ rfl w.heap.size _ O.length (O.length + L.length) O L (O ++ L) rfl (by rw [List.length_append]) rfl rfl HW.out.own A' L.length c' rfl rfl HW.out.texts.at HW.out.nilA (by omega) hbz ?_; intro A1 c1 W2 h1 g1; have H1 := hide h1; have HB := hide (HW.out.below.grown g1 hbz (fun j hj => (own_blkN HW.out.own hj).1)); clear h1 g1)
      | fail)
    go_ret
    have hl : (O ++ L).length = O.length + L.length := List.length_append
    exact ⟨A1, c1, O ++ L, by rw [hl]; rfl, by rw [hl]; exact H1.out, HW.out.pre L HW.out.reads, by omega, (fun s hs => by
      rcases List.mem_append.1 hs with h | h
      · exact HW.out.osize s h
      · have := HW.out.size s h; omega), HB.out⟩
  case first =>
    go_wp2_with fail
    go_loopw [1, 9, 11] (fun c1 c9 c11 wr => ∃ L A' c' O ov cur ss k, c1 = .slice A' L.length c' ∧ c9 = ov ∧ c11 = .int .i64 (k : Nat) ∧ k + L.length ≤ args.length ∧ WRel fs args.length curF ssF restF endF w wr L A' c' O ov cur ss) (fun c1 _ _ _ => lenOf c1)
    case atStart => exact ⟨args, Ax, cx, [], _, fs, [], 0, rfl, rfl, rfl, by omega, Hst.out⟩
    case round =>
      obtain ⟨L, A', c', O, ov, cur, ss, k, rfl, rfl, rfl, hkl, hW⟩ := hrel
      have HW := hide hW
      clear Hst
      rcases L with _ | ⟨s, r⟩
      · clear hW
        go_wp2_with fail
        go_meet
        case rel => exact ⟨[], A', c', O, _, cur, ss, rfl, rfl, HW.out⟩
      · obtain ⟨b0, off, rfl, hbB, hcell⟩ := hW.texts 0 (by simp)
        have c0 : wr.cell? ⟨b0, off, none⟩ = some (.string s) := hcell 0 s rfl
        have hss : s.size ≤ 1048576 := hW.size s (by simp)
        have hcap := hW.cap
        rw [List.length_cons] at hcap
        clear hcell hW
        have hlp : (0 : Int) < ((r.length : Int) + 1) := by omega
        by_cases h1 : s.size < 2
        · have d1 : decide ((s.size : Int) < 2) = true := by simp; omega
          go_wp2_with fail
          go_meet
          case rel => exact ⟨s :: r, _, c', O, _, cur, ss, rfl, rfl, HW.out⟩
        · have d1 : decide ((s.size : Int) < 2) = false := by simp; omega
          have h0 : 0 < s.size := by omega
          cases z : ((s[0].toNat : Int) == 45) with
          | false =>
            have z' : ((s[0].toNat : Int) != 45) = true := by rw [bne, z]; rfl
            go_wp2_with fail
            go_meet
            case rel => exact ⟨s :: r, _, c', O, _, cur, ss, rfl, rfl, HW.out⟩
          | true =>
            have z' : ((s[0].toNat : Int) != 45) = false := by rw [bne, z]; rfl
            cases zz : (s.toList == [45, 45]) with
            | true =>
              go_wp2_with fail
              go_meet
              case rel => exact ⟨s :: r, _, c', O, _, cur, ss, rfl, rfl, HW.out⟩
            | false =>
              obtain ⟨b, i, v, rest', f, f', ss1, hb, hm, hf, ht', hs', next⟩ := HW.out.step (by omega) (by rw [hasB_lt h0]; exact z) (fun e => by rw [e, ByteArray.toList_eq] at zz; exact absurd zz (by decide))
              have h1' : 1 < s.size := by omega
              have hbs := hb.size
              have hd := hb.dash h1' rfl
              have Hb := hide hb
              have Hm' := hide hm
              have Hf := hide hf
              have Ht' := hide ht'
              have Hs' := hide hs'
              have Hnext := hide next
              have HD := hide hd
              have Hz := hide z
              have Hzz := hide zz
              clear hb hm hf ht' hs' next hd
              go_upto_region 9 with fail
              have HP := hide (extract_tail s)
              have hps : (s.extract 1 s.size).size = s.size - 1 := by rw [ByteArray.size_extract]; omega
              have hq0 : 0 < (s.extract 1 s.size).size := by omega
              have Hq1 := hide ((extract_tail s).head h1' hq0)
              have Hq2 := hide ((extract_tail s).two)
              have Hps := hide hps
              clear hps
              generalize s.extract 1 s.size = q at *
              obtain ⟨Ar, hAr⟩ : ∃ Ar, Ar = (if c' = 1 then some (⟨b0, off, none⟩ : Addr) else some ⟨b0, off + 1, none⟩) := ⟨_, rfl⟩
              have HT := hide (show TextsIn wr w.heap.size Ar r by rw [hAr]; exact TextsIn.tail HW.out.texts c' HW.out.cap)
              have HAn : Hid (Ar = none → c' - 1 = 0) := hide (fun e => by rw [hAr] at e; split at e <;> cases e)
              have HAr := hide hAr
              clear hAr c0
              go_cut [41] from 39 to 41 (fun c41 w1 => wr = w1 ∧ ∃ m, c41 = .bool m ∧ m = ((q[0].toNat : Int) == 45))
              case first =>
                go_wp2_with fail
                go_meet
                case rel => exact ⟨rfl, _, rfl, rfl⟩
              case rest =>
                obtain ⟨rfl, m, rfl, hm⟩ := hcut
                have Hm := hide hm
                clear hm
                go_upto_if 41 with fail
                go_cut [13] from 42 to 43 (fun c13 w1 => wr = w1 ∧ c13 = .string b)
                case first =>
                  cases m with
                  | false =>
                    have he : q = b := by
                      have h2 := (HD.out.1 (by have := Hm.out; rw [Hq1.out] at this; exact this.symm)).eq
                      rw [h2]; exact HP.out.eq
                    subst he
                    go_wp2_with fail
                    go_meet
                    case rel => exact ⟨rfl, rfl⟩
                  | true =>
                    have hq1 : (1 : Int) ≤ (q.size : Int) := by omega
                    have he : q.extract 1 q.size = b := by
                      have h2 := (HD.out.2 (by have := Hm.out; rw [Hq1.out] at this; exact this.symm)).2.eq
                      rw [h2]; exact Hq2.out
                    have He := hide he
                    clear he
                    go_wp2_with fail
                    go_meet
                    case rel => exact ⟨rfl, by rw [He.out]⟩
                case rest =>
                  obtain ⟨rfl, rfl⟩ := hcut
                  clear Hq1 Hq2 HP Hps HD Hm
                  go_upto_region 12 with fail
                  have hAe := HAr.out
                  rw [← hAe]
                  clear hAe
                  have hbz : b.size ≤ 9223372036854775807 := by omega
                  obtain ⟨sg, hsg⟩ : ∃ sg, signOf b = sg := ⟨_, rfl⟩
                  have HSg := hide (sign_any b wr hbz)
                  rw [hsg] at HSg
                  have Hsg := hide hsg
                  clear hsg
                  have HF1 := hide (find_any A c fs b wr (by omega) ((Hin.out.below HW.out.below).more HW.out.below.size))
                  have hik := Hm'.out.parts
                  have Hik := hide hik
                  clear hik
                  go_upto_if 52 with (first | (go_at_call 31; refine HSg.out.mono ?_; rintro e w5 ⟨rfl, rfl⟩) | (go_at_call 14; refine HF1.out.mono ?_; rintro e w6 ⟨rfl, hb6⟩; have Hb6 := hide hb6; clear hb6))
                  have HW6 := hide (HW.out.keep (off_of_below Hb6.out))
                  have HT6 := hide (HT.out.off (off_of_below (S := fun _ => False) Hb6.out) HW.out.below.size (fun _ _ h => h))
                  clear HW HT Hb6 HF1 HSg
                  go_cut [15] from 53 to 57 (fun c15 w1 => c15 = .int .i64 i ∧ Off (fun _ => False) w6 w1)
                  case first =>
                    by_cases hk : 0 ≤ sg
                    · obtain ⟨k0, rfl⟩ := Int.eq_ofNat_of_zero_le hk
                      have hkb := (sign_cut Hsg.out).2
                      have hfi := Hik.out.1 k0 Hsg.out
                      have HF2 := hide (find_any A c fs (b.extract 0 k0) w6 (by omega) ((Hin.out.below HW6.out.below).more HW6.out.below.size))
                      have Hfi := hide hfi
                      clear hfi hk
                      go_wp2_with (first | (go_at_call 14; refine HF2.out.mono ?_; rintro e w7 ⟨rfl, hb7⟩; have Hb7 := hide hb7; clear hb7) | fail)
                      go_meet
                      case rel => exact ⟨by rw [Hfi.out], off_of_below Hb7.out⟩
                    · have hk1 : ¬ (0 : Int) ≤ sg := hk
                      have Hfi := hide (Hik.out.2 (by rw [Hsg.out]; omega))
                      go_wp2_with fail
                      go_meet
                      case rel => exact ⟨by rw [Hfi.out], Off.refl _ _⟩
                  case rest =>
                    obtain ⟨rfl, ho7⟩ := hcut
                    have HW7 := hide (HW6.out.keep ho7)
                    have HT7 := hide (HT6.out.off ho7 HW6.out.below.size (fun _ _ h => h))
                    clear HW6 HT6 ho7
                    have HA1 := hide (at_any At nt ct k w.heap.size wc (Ht.out.below HW7.out.below))
                    have HA2 := hide (at_any As ns cs k w.heap.size wc (Hs.out.below HW7.out.below))
                    go_upto_if 61 with (go_at_call 39; refine HA1.out.mono ?_; rintro e w8 ⟨two, rfl, rfl⟩)
                    go_cut [16] (fun c16 w1 => wc = w1 ∧ ∃ hd, c16 = .string hd ∧ Head hd)
                    case first =>
                      cases two with
                      | true =>
                        go_wp2_with fail
                        go_meet
                        case rel => exact ⟨rfl, ⟨#[45, 45]⟩, rfl, .inr rfl⟩
                      | false =>
                        go_wp2_with fail
                        go_meet
                        case rel => exact ⟨rfl, ⟨#[45]⟩, rfl, .inl rfl⟩
                    case rest =>
                      obtain ⟨rfl, hd, rfl, hhd⟩ := hcut
                      have Hhd := hide hhd
                      clear hhd HA1
                      go_upto_region 20 with fail
                      have hi0 : decide ((i : Int) < 0) = false := by simp
                      have hil : i < fs.length := by have h1 := (List.getElem?_eq_some_iff.1 Hf.out).1; rw [HW7.out.same.1] at h1; exact h1
                      obtain ⟨fb, fo, rfl, hfB, hfc⟩ := Hin.out i hil
                      have hff : fs[i]? = some fs[i] := List.getElem?_eq_getElem hil
                      have hfa := (hfc i _ hff).below HW7.out.below hfB
                      have k1 : wc.cell? ⟨fb, fo + i * 5 + 1, none⟩ = some (.int .i64 fs[i].kind) := hfa.2.1
                      have Hkk : Hid (f.kind = fs[i].kind) := hide (HW7.out.same.2 i _ _ hff Hf.out).2
                      have Hff := hide hff
                      have hbc := HW7.out.below.size
                      have hfw := HW7.out.few
                      have hcb : 0 < b.size ∧ True := ⟨Hb.out.2.2.2.1, trivial⟩
                      have HB0 := hide Hb.out.2.2.2
                      simp only [List.length_cons] at hfw
                      clear hfc hfa hff hcb
                      by_cases kd : fs[i].kind = 0
                      · have d0 : (fs[i].kind == 0) = true := by simp [kd]
                        have Hkd := hide kd
                        clear kd
                        obtain ⟨hr, hmm⟩ := Hm'.out.bare (fun g hg => by rw [Hff.out] at hg; cases hg; exact Hkd.out) ⟨_, Hff.out⟩
                        have Hmm := hide hmm
                        subst hr
                        clear hmm
                        have hlm : hd.size + b.size ≤ 9223372036854775807 := by have := head_size Hhd.out; omega
                        go_wp2_with (first | (at_builtin; go_must (refine append_texts rfl _ _ rfl w.heap.size _ O.length (O.length + 1) O [hd ++ b] (O ++ [hd ++ b]) rfl (by rw [List.length_append]; rfl) rfl rfl (HW7.out.own.alloc _) (some ⟨wc.heap.size, 0, none⟩) 1 1 rfl rfl (texts_new wc _) (fun h => by cases h) (by omega) (HW7.out.below.alloc hbc _).size ?_); intro A2 c2 W2 h2 g2; have H2 := hide h2; have G2 := hide (below_push HW7.out.own hbc g2); clear h2 g2) | fail)
                        go_roundw
                        case rel =>
                          have hhb : (hd ++ b).size ≤ 16777216 := by have := head_size Hhd.out; rw [app_size]; omega
                          refine ⟨r, Ar, c' - 1, O ++ [hd ++ b], _, cur.set i f', ss1, k + 1, rfl, rfl, by norm_cast, by simp only [List.length_cons] at hkl; omega, ?_⟩
                          exact HW7.out.push (HT7.out.below G2.out) (by omega) HAn.out (fun x hx => hx) rfl H2.out (fun x hx => by simp at hx; subst hx; exact hhb) (by simp; omega) Hf.out Ht'.out Hnext.out (fun M hM => emit_one Hhd.out HB0.out.1 HB0.out.2.1 HB0.out.2.2 (Hmm.out M) Hf.out Ht'.out Hs'.out hM) (HW7.out.below.trans G2.out)
                        case measure => simp [lenOf]
                      · have d0 : (fs[i].kind == 0) = false := by simpa using kd
                        have hM := Hm'.out
                        rcases hM with ⟨k0, e1, e2, e3, rfl⟩ | ⟨_, _, h3, _⟩ | ⟨e1, e2, e3, rfl⟩
                        · have hsg : sg = (k0 : Int) := Hsg.out.symm.trans e1
                          subst hsg
                          have hk0 : decide ((k0 : Int) < 0) = false := by simp
                          have E2 := hide e2
                          have E3 := hide e3
                          have hkk := (sign_cut Hsg.out).2
                          clear e1 e2 e3 Hik
                          have hlm : hd.size + b.size ≤ 9223372036854775807 := by have := head_size Hhd.out; omega
                          go_upto_if 136 with (go_at_call 39; refine HA2.out.mono ?_; rintro e w8 ⟨sgn, rfl, rfl⟩)
                          cases sgn with
                          | true =>
                            go_wp2_with (first | (at_builtin; go_must (refine append_texts rfl _ _ rfl w.heap.size _ O.length (O.length + 1) O [hd ++ b] (O ++ [hd ++ b]) rfl (by rw [List.length_append]; rfl) rfl rfl (HW7.out.own.alloc _) (some ⟨wc.heap.size, 0, none⟩) 1 1 rfl rfl (texts_new wc _) (fun h => by cases h) (by omega) (HW7.out.below.alloc hbc _).size ?_); intro A2 c2 W2 h2 g2; have H2 := hide h2; have G2 := hide (below_push HW7.out.own hbc g2); clear h2 g2) | fail)
                            go_roundw
                            case rel =>
                              have hhb : (hd ++ b).size ≤ 16777216 := by have := head_size Hhd.out; rw [app_size]; omega
                              refine ⟨rest', Ar, c' - 1, O ++ [hd ++ b], _, cur.set i f', ss1, k + 1, rfl, rfl, by norm_cast, by simp only [List.length_cons] at hkl; omega, ?_⟩
                              exact HW7.out.push (HT7.out.below G2.out) (by omega) HAn.out (fun x hx => hx) rfl H2.out (fun x hx => by simp at hx; subst hx; exact hhb) (by simp; omega) Hf.out Ht'.out Hnext.out (fun M hM => emit_one Hhd.out HB0.out.1 HB0.out.2.1 HB0.out.2.2 (.inl ⟨k0, Hsg.out, E2.out, E3.out, rfl⟩) Hf.out Ht'.out Hs'.out hM) (HW7.out.below.trans G2.out)
                            case measure => simp [lenOf]; try omega
                          | false =>
                            have hk1 : (k0 : Int) ≤ (b.size : Int) := by omega
                            have hk2 : (k0 : Int) + 1 ≤ (b.size : Int) := by omega
                            have hk3 : (k0 : Int) + 1 ≤ 9223372036854775807 := by omega
                            have hlx : hd.size + (b.extract 0 k0).size ≤ 9223372036854775807 := by
                              have := head_size Hhd.out
                              rw [ByteArray.size_extract]; omega
                            have HWd := hide (HW7.out.keep (Off.refl _ wc).drew)
                            have HTd := hide (HT7.out.off (Off.refl (fun _ => False) wc).drew hbc (fun _ _ h => h))
                            obtain ⟨i0, hi0, hz00, hz01, hz02⟩ := info_parts Tryz.infoText
                            have hkn : k0 < b.size := by omega
                            have hkm : k0 ≤ b.size := by omega
                            have hkp : k0 + 1 ≤ b.size := by omega
                            have hkq : (k0 : Int) < (b.size : Int) := by omega
                            obtain ⟨x0, hx0⟩ : ∃ x0, b.extract 0 k0 = x0 := ⟨_, rfl⟩
                            obtain ⟨x1, hx1⟩ : ∃ x1, b.extract (k0 + 1) b.size = x1 := ⟨_, rfl⟩
                            rw [hx0] at hlx
                            have hlx2 : ¬ (9223372036854775807 < hd.size + x0.size) := by omega
                            have hwr : IntKind.i64.wrap ((k0 : Int) + 1) = (k0 : Int) + 1 := by rw [IntKind.wrap_i64]; omega
                            have hw2 : (0 : Int) ≤ (k0 : Int) + 1 := by omega
                            have hw3 : ((k0 : Int) + 1).toNat = k0 + 1 := by omega
                            clear HW7 HT7 HA2 k1
                            go_upto_region 19 with fail
                            go_region_held3 (fun _ => True) (trivial)
                              (first | ((refine step_append_lies _ (by rfl) _ _ _ (by rfl) w.heap.size 9 i0 _ 1 16 Tryz.underlying26 hi0 hz00 hz01 hz02 rfl (by omega) _ O.length (O.map Value.string) (by rfl) (HWd.out.own.alloc _) ⟨wc.heap.size, 0, none⟩ 2 2 [.string (hd ++ x0), .string x1] (by rfl) (by simp) (World.news_of_block (heap_alloc_new _ _)) (by simp [Value.oneCell']) (by omega) (by unfold maxLen; omega) (by omega) (HWd.out.below.alloc hbc _).size (wc.heap.size + 1) (by simp) ?_; intro gg cap w3 hown3 hgrow hat hlt3; have H2 := hide hown3; have G2 := hide (below_push HWd.out.own hbc hgrow); clear hown3 hgrow hat hlt3)))
                            go_wp2_with fail
                            go_roundw
                            case rel =>
                              subst hx0 hx1
                              have hh0 := head_size Hhd.out
                              have hhb : (hd ++ b.extract 0 k0).size ≤ 16777216 := by rw [app_size, ByteArray.size_extract]; omega
                              have hhv : (b.extract (k0 + 1) b.size).size ≤ 16777216 := by rw [ByteArray.size_extract]; omega
                              refine ⟨rest', Ar, c' - 1, O ++ [hd ++ b.extract 0 k0, b.extract (k0 + 1) b.size], _, cur.set i f', ss1, k + 1, rfl, rfl, congrArg (Value.int IntKind.i64) (by omega), by simp only [List.length_cons] at hkl; omega, ?_⟩
                              exact HWd.out.push (HTd.out.below G2.out) (by omega) HAn.out (fun x hx => hx) rfl (by rw [List.map_append]; exact H2.out) (fun x hx => by
                                rcases List.mem_cons.1 hx with rfl | hx
                                · exact hhb
                                · rw [List.mem_singleton.1 hx]; exact hhv) (by simp; omega) Hf.out Ht'.out Hnext.out (fun M hM => emit_cut Hhd.out HB0.out.1 HB0.out.2.1 HB0.out.2.2 Hsg.out E2.out (fun g hg => by rw [Hff.out] at hg; cases hg; exact kd) Hf.out (E3.out ▸ Ht'.out) Hs'.out hM) (HWd.out.below.trans G2.out)
                            case measure => simp [lenOf]; try omega
                        · exact absurd (h3 _ Hff.out) kd
                        · have hsn : ¬ (0 : Int) ≤ sg := by rw [← Hsg.out]; omega
                          have hsd : decide (sg < 0) = true := by simp; omega
                          have hl0 : (((rest'.length : Int) + 1) == 0) = false := by simp; omega
                          have hvs : v.size ≤ 1048576 := HW7.out.size v (by simp)
                          have E1 := hide e1
                          have E2 := hide e2
                          have E3 := hide e3
                          clear e1 e2 e3 Hik
                          obtain ⟨b1, off1, rfl, hb1B, hc1⟩ := HT7.out 0 (by simp)
                          have c1 : wc.cell? ⟨b1, off1, none⟩ = some (.string v) := hc1 0 v rfl
                          have HT8 : Hid (TextsIn wc w.heap.size (if c' = 2 then some ⟨b1, off1, none⟩ else some ⟨b1, off1 + 1, none⟩) rest') := hide (by
                            have h := TextsIn.tail HT7.out (c' - 1) (by have h : (v :: rest').length = rest'.length + 1 := rfl; omega)
                            by_cases h2 : c' = 2
                            · rw [if_pos (by omega)] at h; rw [if_pos h2]; exact h
                            · rw [if_neg (by omega)] at h; rw [if_neg h2]; exact h)
                          clear hc1
                          have hcap1 : rest'.length + 1 ≤ c' - 1 := by have h : (v :: rest').length = rest'.length + 1 := rfl; omega
                          have hln : 1 ≤ rest'.length + 1 := by omega
                          have hlm : hd.size + b.size ≤ 9223372036854775807 := by have := head_size Hhd.out; omega
                          have hlm1 : hd.size + b.size + 1 ≤ 9223372036854775807 := by have := head_size Hhd.out; omega
                          have hlm2 : hd.size + b.size + 1 + v.size ≤ 9223372036854775807 := by have := head_size Hhd.out; omega
                          go_upto_if 100 with (go_at_call 39; refine HA2.out.mono ?_; rintro e w8 ⟨sgn, rfl, rfl⟩)
                          cases sgn with
                          | true =>
                            go_wp2_with (first | (at_builtin; go_must (refine append_texts rfl _ _ rfl w.heap.size _ O.length (O.length + 1) O [hd ++ b ++ (⟨#[61]⟩ : ByteArray) ++ v] (O ++ [hd ++ b ++ (⟨#[61]⟩ : ByteArray) ++ v]) rfl (by rw [List.length_append]; rfl) rfl rfl (HW7.out.own.alloc _) (some ⟨wc.heap.size, 0, none⟩) 1 1 rfl rfl (texts_new wc _) (fun h => by cases h) (by omega) (HW7.out.below.alloc hbc _).size ?_); intro A2 c2 W2 h2 g2; have H2 := hide h2; have G2 := hide (below_push HW7.out.own hbc g2); clear h2 g2) | fail)
                            go_roundw
                            case rel =>
                              have hhb : (hd ++ b ++ (⟨#[61]⟩ : ByteArray) ++ v).size ≤ 16777216 := by
                                have := head_size Hhd.out
                                rw [app_size, app_size, app_size, show (⟨#[61]⟩ : ByteArray).size = 1 from rfl]; omega
                              refine ⟨rest', _, c' - 1 - 1, O ++ [hd ++ b ++ (⟨#[61]⟩ : ByteArray) ++ v], _, cur.set i f', ss1, k + 1, rfl, rfl, by norm_cast, by simp only [List.length_cons] at hkl; omega, ?_⟩
                              exact HW7.out.push (HT8.out.below G2.out) (by omega) (fun e => by split at e <;> cases e) (fun x hx => List.mem_cons_of_mem _ hx) rfl H2.out (fun x hx => by simp at hx; subst hx; exact hhb) (by simp; omega) Hf.out Ht'.out Hnext.out (fun M hM => emit_sign Hhd.out HB0.out.1 HB0.out.2.1 HB0.out.2.2 E1.out E2.out Hf.out Ht'.out Hs'.out hM) (HW7.out.below.trans G2.out)
                            case measure => simp [lenOf]; try omega
                          | false =>
                            go_wp2_with (first | (at_builtin; go_must (refine append_texts rfl _ _ rfl w.heap.size _ O.length (O.length + 2) O [hd ++ b, v] (O ++ [hd ++ b, v]) rfl (by rw [List.length_append]; rfl) rfl rfl (HW7.out.own.alloc _) (some ⟨wc.heap.size, 0, none⟩) 2 2 rfl rfl (texts_new2 wc _ _) (fun h => by cases h) (by omega) (HW7.out.below.alloc hbc _).size ?_); intro A2 c2 W2 h2 g2; have H2 := hide h2; have G2 := hide (below_push HW7.out.own hbc g2); clear h2 g2) | fail)
                            go_roundw
                            case rel =>
                              have hhb : (hd ++ b).size ≤ 16777216 := by have := head_size Hhd.out; rw [app_size]; omega
                              refine ⟨rest', _, c' - 1 - 1, O ++ [hd ++ b, v], _, cur.set i f', ss1, k + 1, rfl, rfl, by norm_cast, by simp only [List.length_cons] at hkl; omega, ?_⟩
                              exact HW7.out.push (HT8.out.below G2.out) (by omega) (fun e => by split at e <;> cases e) (fun x hx => List.mem_cons_of_mem _ hx) rfl H2.out (fun x hx => by
                                rcases List.mem_cons.1 hx with rfl | hx
                                · exact hhb
                                · rw [List.mem_singleton.1 hx]; omega) (by simp; omega) Hf.out Ht'.out Hnext.out (fun M hM => emit_two Hhd.out HB0.out.1 HB0.out.2.1 HB0.out.2.2 (.inr (.inr ⟨E1.out, E2.out, E3.out, rfl⟩)) Hf.out Ht'.out Hs'.out hM) (HW7.out.below.trans G2.out)
                            case measure => simp [lenOf]; try omega
end Go.Proofs.YtpcmiaablanmeaaGreatDoor
