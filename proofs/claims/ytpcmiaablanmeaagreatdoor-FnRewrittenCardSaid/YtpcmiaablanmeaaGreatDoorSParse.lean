/- spec.Parse: where it ends without an error, what it gives is read (Reads). -/
import Derived.Test.YtpcmiaablanmeaaGreatDoorRSet
import Derived.Test.YtpcmiaablanmeaaGreatDoorClone
import Derived.Test.YtpcmiaablanmeaaGreatDoorTexts
import Derived.Test.YtpcmiaablanmeaaGreatDoorFits
namespace Go.Proofs.YtpcmiaablanmeaaGreatDoor
open Go.RowKit Go.Lib

theorem FlagsSt.shape {w : World} {B : Nat} {fl : Value} {fs : List FD} (h : FlagsSt w B fl fs) : ∃ a n c, fl = .slice a n c := by
  rcases h with ⟨rfl, _⟩ | ⟨g, cap, cs, rfl, _⟩
  · exact ⟨_, _, _, rfl⟩
  · exact ⟨_, _, _, rfl⟩

theorem own_form {w : World} {B : Nat} {e : TypeId} {v : Value} {n : Nat} {xs : List Value} (h : w.ownsRow B e 1 v n xs) : ∃ a n c, v = .slice a n c := by
  rcases h.2 with ⟨rfl, _⟩ | ⟨g, cap, cur, rfl, _⟩
  · exact ⟨_, _, _, rfl⟩
  · exact ⟨_, _, _, rfl⟩

def lenOf : Value → Nat
  | .slice _ n _ => n
  | _ => 0

/-- The flags now are those that were defined, but for their values. -/
def SameNames (fs cur : List FD) : Prop := cur.length = fs.length ∧ ∀ (i : Nat) (f g : FD), fs[i]? = some f → cur[i]? = some g → g.name = f.name ∧ g.kind = f.kind

theorem SameNames.set {fs cur : List FD} (h : SameNames fs cur) {i : Nat} {f f' : FD} (hf : cur[i]? = some f) (hn : f'.name = f.name ∧ f'.kind = f.kind) : SameNames fs (cur.set i f') := by
  refine ⟨by rw [List.length_set]; exact h.1, fun j a b ha hb => ?_⟩
  by_cases e : i = j
  · subst e
    rw [List.getElem?_set_self (List.getElem?_eq_some_iff.1 hf).1] at hb
    cases hb
    have := h.2 i a f ha hf
    exact ⟨hn.1.trans this.1, hn.2.trans this.2⟩
  · rw [List.getElem?_set_ne e] at hb
    exact h.2 j a b ha hb

def SParsePost (fs : List FD) (args : List ByteArray) (w : World) (e : Ending) (w' : World) : Prop :=
  ∃ (fa : Option Addr) (fn fc : Nat) (na : Option Addr) (nn nc : Nat) (ra : Option Addr) (rn rc : Nat) (st bad : Int) (said ended : Bool), e = .returned (.agg (readCells (.slice fa fn fc) (.slice na nn nc) (.slice ra rn rc) st bad said ended)) ∧ Below w.heap.size w w' ∧
    (st = 0 → ∃ cur ss L, Reads fs fs args [] cur ss L ended ∧ w'.ownsRow w.heap.size 9 1 (.slice na nn nc) ss.length (ss.map Value.string) ∧ Sorted ss ∧ FlagsSt w' w.heap.size (.slice fa fn fc) cur ∧ rn = L.length ∧ nn = ss.length ∧ TextsIn w' w.heap.size ra L)

/-- The loop's relation. -/
structure SRel (fs : List FD) (args : List ByteArray) (w wr : World) (rb : Nat) (fl : Value) (L : List ByteArray) (A : Option Addr) (c : Nat) (sn : Value) (said : Bool) (cur : List FD) (ss : List ByteArray) : Prop where
  texts : TextsIn wr w.heap.size A L
  cap : L.length ≤ c
  size : ∀ s ∈ L, s.size ≤ 1048576
  rs : RS wr (w.heap.size + 1) rb fl sn (.slice none 0 0) 0 (-1) said false cur ss
  reads : ∀ cur' ss' rest ended, Reads fs cur L ss cur' ss' rest ended → Reads fs fs args [] cur' ss' rest ended
  same : SameNames fs cur
  few : ss.length + L.length ≤ args.length
  off : Off (fun j => w.heap.size ≤ j) w wr
  res : Blk wr w.heap.size 40 (readCells (.slice none 0 0) (.slice none 0 0) (.slice none 0 0) 0 0 false false)

/-- Where the loop ends. -/
structure SExit (fs : List FD) (args : List ByteArray) (w wr : World) (rb : Nat) (fl : Value) (L : List ByteArray) (A : Option Addr) (sn : Value) (said ended : Bool) (cur : List FD) (ss : List ByteArray) : Prop where
  texts : TextsIn wr w.heap.size A L
  rs : RS wr (w.heap.size + 1) rb fl sn (.slice none 0 0) 0 (-1) said ended cur ss
  reads : Reads fs fs args [] cur ss L ended
  off : Off (fun j => w.heap.size ≤ j) w wr
  res : Blk wr w.heap.size 40 (readCells (.slice none 0 0) (.slice none 0 0) (.slice none 0 0) 0 0 false false)

/-- The text behind the hyphens. -/
def Hyph (s b : ByteArray) : Prop := 0 < b.size ∧ b.size ≤ s.size ∧ ∃ h1 : 1 < s.size, s[0] = 45 ∧ ((s[1] ≠ 45 ∧ b = s.extract 1 s.size) ∨ (s[1] = 45 ∧ 2 < s.size ∧ b = s.extract 2 s.size))

/-- q is s without its first byte. -/
structure TailOf (s q : ByteArray) : Prop where
  eq : q = s.extract 1 s.size
  two : q.extract 1 q.size = s.extract 2 s.size
  head : ∀ h1 : 1 < s.size, ∀ h0 : 0 < q.size, q[0] = s[1]

theorem extract_at (s : ByteArray) (i j : Nat) (h : i + j < s.size) (hj : j < (s.extract i s.size).size) : (s.extract i s.size)[j] = s[i + j] := by
  have h1 : (s.extract i s.size).data.toList = (s.data.toList.drop i).take (s.size - i) := by
    have := Go.Lib.extract_toList s i s.size
    rw [ByteArray.toList_eq] at this
    exact this
  have h2 : (s.extract i s.size).data.toList[j]? = s.data.toList[i + j]? := by
    rw [h1, List.getElem?_take_of_lt (by omega), List.getElem?_drop]
  rw [Array.getElem?_toList, Array.getElem?_toList] at h2
  have h3 : (s.extract i s.size).data[j]? = some (s.extract i s.size)[j] := Array.getElem?_eq_getElem hj
  have h4 : s.data[i + j]? = some s[i + j] := Array.getElem?_eq_getElem h
  rw [h3, h4] at h2
  exact Option.some.inj h2

theorem extract_two (s : ByteArray) : (s.extract 1 s.size).extract 1 (s.extract 1 s.size).size = s.extract 2 s.size := by
  refine data_inj' ?_
  have h : ∀ (t : ByteArray) a b, (t.extract a b).data.toList = (t.data.toList.drop a).take (b - a) := fun t a b => by
    rw [← ByteArray.toList_eq, Go.Lib.extract_toList]
  rw [h, h, h, ByteArray.size_extract, List.drop_take, List.drop_drop, List.take_take]
  congr 1
  omega

theorem extract_tail (s : ByteArray) : TailOf s (s.extract 1 s.size) := by
  refine ⟨rfl, extract_two s, fun _ h0 => ?_⟩
  have h := extract_at s 1 0 (by omega) h0
  simp only [Nat.add_zero] at h
  exact h

theorem byte45 {c : UInt8} (h : ((c.toNat : Int) == 45) = true) : c = 45 := by
  have h1 : (c.toNat : Int) = 45 := by simpa using h
  have h2 : c.toNat = 45 := by omega
  exact UInt8.toNat_inj.1 (by rw [h2]; rfl)
theorem byte45n {c : UInt8} (h : ((c.toNat : Int) == 45) = false) : c ≠ 45 := fun e => by subst e; simp at h

theorem TailOf.plain {s q : ByteArray} (h : TailOf s q) (h1 : 1 < s.size) {h0 : 0 < q.size} (z : ((s[0].toNat : Int) == 45) = true) (hm : false = ((q[0].toNat : Int) == 45)) : Hyph s q := by
  rw [h.head h1] at hm
  refine ⟨h0, ?_, h1, byte45 z, .inl ⟨byte45n hm.symm, h.eq⟩⟩
  rw [h.eq, ByteArray.size_extract]; omega
theorem TailOf.double {s q : ByteArray} (h : TailOf s q) (h1 : 1 < s.size) {h0 : 0 < q.size} (z : ((s[0].toNat : Int) == 45) = true) (hm : true = ((q[0].toNat : Int) == 45)) (h2 : 1 < q.size) : Hyph s (q.extract 1 q.size) := by
  rw [h.head h1] at hm
  have hq : q.size = s.size - 1 := by rw [h.eq, ByteArray.size_extract]; omega
  exact ⟨by rw [ByteArray.size_extract]; omega, by rw [ByteArray.size_extract]; omega, h1, byte45 z, .inr ⟨byte45 hm.symm, by omega, h.two⟩⟩
theorem TailOf.dashes {s q : ByteArray} (h : TailOf s q) (h1 : 1 < s.size) {h0 : 0 < q.size} (z : ((s[0].toNat : Int) == 45) = true) (hm : true = ((q[0].toNat : Int) == 45)) (h2 : q.size = 1) : s = ⟨#[45, 45]⟩ := by
  rw [h.head h1] at hm
  have hq : q.size = s.size - 1 := by rw [h.eq, ByteArray.size_extract]; omega
  have a0 : s[0] = 45 := byte45 z
  have a1 : s[1] = 45 := byte45 hm.symm
  have hs : s.size = 2 := by omega
  have hd : s.data = #[45, 45] := by
    apply Array.ext
    · exact hs
    · intro i hi _
      have hi' : i < 2 := by have : s.data.size = 2 := hs; omega
      match i, hi' with
      | 0, _ => exact a0
      | 1, _ => exact a1
  cases s
  simp only at hd
  rw [hd]

theorem SRel.stop {fs : List FD} {args : List ByteArray} {w wr : World} {rb : Nat} {fl : Value} {L : List ByteArray} {A : Option Addr} {c : Nat} {sn : Value} {said : Bool} {cur : List FD} {ss : List ByteArray} (h : SRel fs args w wr rb fl L A c sn said cur ss) (hs : StopAt L) : SExit fs args w wr rb fl L A sn said false cur ss :=
  ⟨h.texts, h.rs, h.reads _ _ _ _ (.stop cur L ss hs), h.off, h.res⟩

theorem own_off {w w' : World} {B : Nat} {e : TypeId} {v : Value} {n : Nat} {xs : List Value} {S : Nat → Prop} (h : w.ownsRow B e 1 v n xs) (ho : Off S w w') (hs : ∀ j cs, B ≤ j → Blk w j e cs → ¬ S j) : w'.ownsRow B e 1 v n xs := by
  rcases h with ⟨h1, h | ⟨g, cap, cur, hv, hb, hg, rest⟩⟩
  · exact ⟨h1, .inl h⟩
  · exact ⟨h1, .inr ⟨g, cap, cur, hv, hb, Blk.off (w := w) (show Blk w g e cur from hg) ho (hs g cur hb hg), rest⟩⟩

theorem own_base {w : World} {B B' : Nat} {e : TypeId} {v : Value} {n : Nat} {xs : List Value} (h : w.ownsRow B e 1 v n xs) (hB : B' ≤ B) : w.ownsRow B' e 1 v n xs := by
  rcases h with ⟨h1, h | ⟨g, cap, cur, hv, hb, rest⟩⟩
  · exact ⟨h1, .inl h⟩
  · exact ⟨h1, .inr ⟨g, cap, cur, hv, Nat.le_trans hB hb, rest⟩⟩

theorem FlagsSt.off {w w' : World} {B B' : Nat} {fl : Value} {fs : List FD} {S : Nat → Prop} (h : FlagsSt w B fl fs) (ho : Off S w w') (hB : B' ≤ B) (hs : ∀ j cs, B ≤ j → Blk w j 36 cs → ¬ S j) : FlagsSt w' B' fl fs := by
  rcases h with h | ⟨g, cap, cs, h1, h2, h3, h4⟩
  · exact .inl h
  · exact .inr ⟨g, cap, cs, h1, Nat.le_trans hB h2, h3.off ho (hs g cs h2 h3), h4⟩

theorem SRel.term {fs : List FD} {args : List ByteArray} {w wr : World} {rb : Nat} {fl : Value} {s : ByteArray} {r : List ByteArray} {A At : Option Addr} {c : Nat} {sn : Value} {said : Bool} {cur : List FD} {ss : List ByteArray} (h : SRel fs args w wr rb fl (s :: r) A c sn said cur ss) (ht : TextsIn wr w.heap.size At r) (hs : s = ⟨#[45, 45]⟩) :
    SExit fs args w (wr.setCell ⟨rb, 6, none⟩ (.bool true)) rb fl r At sn said true cur ss := by
  have hrb := h.rs.rbB
  have ho : Off (fun j => j = rb) wr (wr.setCell ⟨rb, 6, none⟩ (.bool true)) := (Off.refl (fun j => j = rb) wr).setCell (p := ⟨rb, 6, none⟩) (fun _ => rfl) _
  have hfar : ∀ (e : TypeId), 40 ≠ e → ∀ j cs, w.heap.size + 1 ≤ j → Blk wr j e cs → ¬ j = rb := fun e hne j cs _ hb hh => by
    subst hh; exact h.rs.blk.ne_ hb hne rfl
  exact ⟨ht.off ho h.off.size (fun j hj => by omega), ⟨h.rs.blk.set_ 6 _, h.rs.fls.off ho (Nat.le_refl _) (hfar _ (by decide)), own_off h.rs.seen ho (hfar _ (by decide)), h.rs.sorted, hrb⟩, h.reads _ _ _ _ (.term cur s r ss hs), h.off.trans ho (fun j _ hj => by omega), h.res.off ho (by omega)⟩

theorem sparse_wrong {fs : List FD} {args : List ByteArray} {w w4 w5 w' : World} {rb : Nat} {fa na ra : Option Addr} {fn fc nn nc rn rc : Nat} {st bad : Int} {said ended : Bool} (ho : Off (fun j => w.heap.size ≤ j) w w4) (hrb : w.heap.size + 1 ≤ rb) (ho5 : Off (fun j => j = rb) w4 w5) (hst : st ≠ 0) (ho7 : Off (fun j => j = w.heap.size) w5 w') :
    SParsePost fs args w (.returned (.agg (readCells (.slice fa fn fc) (.slice na nn nc) (.slice ra rn rc) st bad said ended))) w' :=
  ⟨fa, fn, fc, na, nn, nc, ra, rn, rc, st, bad, said, ended, rfl, ((ho.trans ho5 (fun j _ e => by omega)).trans ho7 (fun j _ e => by omega)).below (fun j _ hj => hj) (Nat.le_refl _), fun h => absurd h hst⟩

/-- The name, and the value behind an equals sign if there is one. -/
def Split (b nm v : ByteArray) (has : Bool) : Prop := (has = true ∧ ∃ k : Nat, signOf b = k ∧ nm = b.extract 0 k ∧ v = b.extract (k + 1) b.size) ∨ (has = false ∧ signOf b < 0 ∧ nm = b ∧ v = ⟨#[]⟩)

theorem sign_nat (s : ByteArray) (h : 0 ≤ signOf s) : ∃ k : Nat, signOf s = k ∧ k < s.size := by
  unfold signOf at h ⊢
  cases hf : s.data.toList.findIdx? (· == 61) with
  | none => rw [hf] at h; simp at h
  | some i =>
    rw [List.findIdx?_eq_some_iff_getElem] at hf
    obtain ⟨hi, _⟩ := hf
    exact ⟨i, rfl, by simpa using hi⟩

theorem SRel.keep {fs : List FD} {args : List ByteArray} {w wr w' : World} {rb : Nat} {fl : Value} {L : List ByteArray} {A : Option Addr} {c : Nat} {sn : Value} {said : Bool} {cur : List FD} {ss : List ByteArray} (h : SRel fs args w wr rb fl L A c sn said cur ss) (ho : Off (fun _ => False) wr w') : SRel fs args w w' rb fl L A c sn said cur ss :=
  ⟨h.texts.off ho h.off.size (fun _ _ h => h), h.cap, h.size, ⟨h.rs.blk.off ho (fun h => h), h.rs.fls.off ho (Nat.le_refl _) (fun _ _ _ _ h => h), own_off h.rs.seen ho (fun _ _ _ _ h => h), h.rs.sorted, h.rs.rbB⟩, h.reads, h.same, h.few, h.off.trans ho (fun _ _ h => h.elim), h.res.off ho (fun h => h)⟩

theorem find_nat (fs : List FD) (nm : ByteArray) (h : 0 ≤ findOf fs nm) : ∃ (i : Nat) (f : FD), findOf fs nm = i ∧ fs[i]? = some f ∧ f.name = nm := by
  unfold findOf at h ⊢
  cases hf : fs.findIdx? (fun f => decide (f.name = nm)) with
  | none => rw [hf] at h; simp at h
  | some i =>
    rw [List.findIdx?_eq_some_iff_getElem] at hf
    obtain ⟨hi, hn, _⟩ := hf
    exact ⟨i, fs[i], rfl, List.getElem?_eq_getElem hi, by simpa using hn⟩

theorem body_of {s b : ByteArray} (h : Hyph s b) {h0 : 0 < b.size} (z1 : ((b[0].toNat : Int) == 45) = false) (z2 : ((b[0].toNat : Int) == 61) = false) : Body s b := by
  obtain ⟨hb, _, h1, a0, a1⟩ := h
  refine ⟨h1, a0, a1, hb, byte45n z1, fun e => ?_⟩
  rw [e] at z2
  simp at z2

theorem means_has {fs : List FD} {b nm v : ByteArray} {r : List ByteArray} {i : Nat} (h : Split b nm v true) (hi : findOf fs nm = i) : Means fs b r i v r := by
  rcases h with ⟨_, k, hk, rfl, rfl⟩ | ⟨h, _⟩
  · exact .inl ⟨k, hk, hi, rfl, rfl⟩
  · cases h

theorem split_none {b nm v : ByteArray} (h : Split b nm v false) : signOf b < 0 ∧ b = nm ∧ v = ⟨#[]⟩ := by
  rcases h with ⟨h, _⟩ | ⟨_, h1, h2, h3⟩
  · cases h
  · exact ⟨h1, h2.symm, h3⟩

theorem ite_pred (c : Nat) (x y : Option Addr) : (if c - 1 = 1 then x else y) = if c = 2 then x else y := by
  by_cases h2 : c = 2
  · subst h2; rfl
  · rw [if_neg h2, if_neg (by omega)]

theorem split_size {b nm v : ByteArray} {has : Bool} (h : Split b nm v has) (hb : b.size ≤ 1048576) : v.size ≤ 1048576 := by
  rcases h with ⟨_, k, _, _, rfl⟩ | ⟨_, _, _, rfl⟩
  · rw [ByteArray.size_extract]; omega
  · exact Nat.zero_le _

theorem SeenStep.le {ss ss' : List ByteArray} {x : ByteArray} (h : SeenStep ss x ss') : ss'.length ≤ ss.length + 1 := by
  rcases h with ⟨_, rfl⟩ | ⟨_, h⟩
  · omega
  · rw [h.length_eq, List.length_cons]; exact Nat.le_refl _

theorem SRel.next {fs : List FD} {args : List ByteArray} {w wr w8 : World} {rb : Nat} {fl : Value} {s b : ByteArray} {r r' : List ByteArray} {A A' : Option Addr} {c c' : Nat} {sn sn' : Value} {said said' : Bool} {cur : List FD} {ss ss' : List ByteArray} {i : Nat} {v : ByteArray} {g g' : FD}
    (h : SRel fs args w wr rb fl (s :: r) A c sn said cur ss) (hb : Body s b) (hm : Means fs b r i v r') (hg : cur[i]? = some g) (ht : Takes g v g') (hs : SeenStep ss g.name ss') (hrs : RS w8 (w.heap.size + 1) rb fl sn' (.slice none 0 0) 0 (-1) said' false (cur.set i g') ss') (ho : Off (fun j => w.heap.size + 1 ≤ j) wr w8)
    (hx : TextsIn wr w.heap.size A' r') (hc : r'.length ≤ c') {n : Nat} (_ : n = n) : SRel fs args w w8 rb fl r' A' c' sn' said' (cur.set i g') ss' := by
  have hsub : (∀ x ∈ r', x ∈ r) ∧ r'.length ≤ r.length := by
    rcases hm with ⟨_, _, _, _, rfl⟩ | ⟨_, _, _, _, rfl⟩ | ⟨_, _, _, rfl⟩
    · exact ⟨fun x h => h, Nat.le_refl _⟩
    · exact ⟨fun x h => h, Nat.le_refl _⟩
    · exact ⟨fun x h => List.mem_cons_of_mem _ h, by simp⟩
  refine ⟨hx.off ho h.off.size (fun j hj => by omega), hc, fun x hxr => h.size x (List.mem_cons_of_mem _ (hsub.1 x hxr)), hrs, fun _ _ _ _ hh => h.reads _ _ _ _ (.step cur s b r ss i v r' g g' ss' _ _ _ _ hb hm hg ht hs hh), h.same.set hg ht.name, ?_, h.off.trans ho (fun j _ hj => by omega), h.res.off ho (by omega)⟩
  have h1 := hs.le
  have h2 := h.few
  rw [List.length_cons] at h2
  omega

theorem own_nn {w : World} {B : Nat} {e : TypeId} {a : Option Addr} {m c n : Nat} {xs : List Value} (h : w.ownsRow B e 1 (.slice a m c) n xs) : m = n := by
  rcases h.2 with ⟨h1, h0⟩ | ⟨g, cap, cur, h1, _⟩
  · injection h1 with _ h2 _
    omega
  · injection h1 with _ h2 _

theorem sparse_end {fs : List FD} {args : List ByteArray} {w wr w' : World} {rb : Nat} {fa na : Option Addr} {fn fc nn nc : Nat} {L : List ByteArray} {A : Option Addr} {c : Nat} {said ended : Bool} {cur : List FD} {ss : List ByteArray} (h : SExit fs args w wr rb (.slice fa fn fc) L A (.slice na nn nc) said ended cur ss) (ho : Off (fun j => j = rb ∨ j = w.heap.size) wr w') :
    SParsePost fs args w (.returned (.agg (readCells (.slice fa fn fc) (.slice na nn nc) (.slice A L.length c) 0 (-1) said ended))) w' := by
  have hrb := h.rs.rbB
  have hfar : ∀ (e : TypeId), 40 ≠ e → ∀ j cs, w.heap.size + 1 ≤ j → Blk wr j e cs → ¬ (j = rb ∨ j = w.heap.size) := fun e hne j cs hj hb hh => by
    rcases hh with hh | hh
    · subst hh; exact h.rs.blk.ne_ hb hne rfl
    · omega
  exact ⟨fa, fn, fc, na, nn, nc, A, L.length, c, 0, -1, said, ended, rfl, (h.off.trans ho (fun j _ hj => by rcases hj with hj | hj <;> omega)).below (fun j _ hj => hj) (Nat.le_refl _), fun _ => ⟨cur, ss, L, h.reads, own_base (own_off h.rs.seen ho (hfar _ (by decide))) (by omega), h.rs.sorted,
    h.rs.fls.off ho (by omega) (hfar _ (by decide)), rfl, own_nn h.rs.seen, h.texts.off ho h.off.size (fun j hj hh => by rcases hh with hh | hh <;> omega)⟩⟩

theorem sparse_start {fs : List FD} {Ax : Option Addr} {args : List ByteArray} {cx : Nat} {w w2 : World} {fl : Value} (hx : TextsIn w w.heap.size Ax args) (hxc : args.length ≤ cx) (hxs : ∀ s ∈ args, s.size ≤ 1048576)
    (hba : Below w.heap.size w (w.alloc (.cells (readCells (.slice none 0 0) (.slice none 0 0) (.slice none 0 0) 0 0 false false) 40))) (hf : FlagsSt w2 (w.alloc (.cells (readCells (.slice none 0 0) (.slice none 0 0) (.slice none 0 0) 0 0 false false) 40)).heap.size fl fs)
    (hb2 : Below (w.alloc (.cells (readCells (.slice none 0 0) (.slice none 0 0) (.slice none 0 0) 0 0 false false) 40)).heap.size (w.alloc (.cells (readCells (.slice none 0 0) (.slice none 0 0) (.slice none 0 0) 0 0 false false) 40)) w2) :
    SRel fs args w (w2.alloc (.cells (readCells fl (.slice none 0 0) (.slice none 0 0) 0 (-1) true false) 40)) w2.heap.size fl args Ax cx (.slice none 0 0) true fs [] := by
  have hz : (w.alloc (.cells (readCells (.slice none 0 0) (.slice none 0 0) (.slice none 0 0) 0 0 false false) 40)).heap.size = w.heap.size + 1 := by simp
  have hb3 : Below w.heap.size w w2 := hba.trans (hb2.mono (by omega))
  have ho := Off.alloc (Below.off' hb3) (.cells (readCells fl (.slice none 0 0) (.slice none 0 0) 0 (-1) true false) 40)
  have hsz := hb2.size
  rw [hz] at hf hsz
  refine ⟨hx.off ho (Nat.le_refl _) (fun j hj => by omega), hxc, hxs, ⟨Blk.new _ _ _, ?_, World.ownsRow_nil _ _ _ _, List.Pairwise.nil, hsz⟩, fun _ _ _ _ h => h, ⟨rfl, fun i f g h1 h2 => by rw [h1] at h2; cases h2; exact ⟨rfl, rfl⟩⟩, by simp, ho, ?_⟩
  · rcases hf with h | ⟨g, cap, cs, h1, h2, h3, h4⟩
    · exact .inl h
    · exact .inr ⟨g, cap, cs, h1, h2, h3.alloc _, h4⟩
  · exact ((Blk.new w 40 _).off (off_of_below (S := fun _ => False) hb2) (fun h => h)).alloc _

set_option maxHeartbeats 2000000 in
set_option maxRecDepth 100000 in
theorem sparse_any (A : Option Addr) (c : Nat) (fs : List FD) (Ax : Option Addr) (cx : Nat) (args : List ByteArray) (w : World) (hD : fs.length ≤ 100) (hlc : fs.length ≤ c) (hin : FlagsIn w w.heap.size A fs) (hnil : A = none → c = 0) (hok : ∀ f ∈ fs, f.Ok) (hx : TextsIn w w.heap.size Ax args) (hxc : args.length ≤ cx) (hxs : ∀ s ∈ args, s.size ≤ 1048576) (hxl : args.length ≤ 1000) :
    Calls Tryz.prog 23 #[.slice A fs.length c, .slice Ax args.length cx] w (SParsePost fs args w) := by
  have Hin := hide hin
  have Hx := hide hx
  have Hok := hide hok
  clear hin hx hok
  go_enter Tryz.func23, Tryz.ntmps23
  have hba : Below w.heap.size w (w.alloc (.cells (readCells (.slice none 0 0) (.slice none 0 0) (.slice none 0 0) 0 0 false false) 40)) := (Below.refl _ _).alloc (Nat.le_refl _) _
  have HC := hide (clone_any A c fs _ hD hlc ((Hin.out.below hba).more (by simp)) hnil)
  have Hba := hide hba
  clear hba
  go_upto_block 0 with (first
    | (go_at_call 36; refine HC.out.mono ?_; rintro e w2 ⟨fl, rfl, hfl, hb2⟩; obtain ⟨fa, fn, fc, rfl⟩ := hfl.shape; have HF := hide hfl; have Hb2 := hide hb2; clear hfl hb2)
    | go_in)
  go_name_world w3 hw3
  have hst : Hid (SRel fs args w w3 w2.heap.size (.slice fa fn fc) args Ax cx (.slice none 0 0) true fs []) := by
    rw [← hw3]
    exact sparse_start Hx.out hxc hxs Hba.out HF.out Hb2.out
  clear hw3 HC Hba HF Hb2
  generalize w2.heap.size = rb at *
  go_cut [1] from 6 to 113 (fun a1 w1 => ∃ L A' c' sn said ended cur ss, a1 = .slice A' L.length c' ∧ SExit fs args w w1 rb (.slice fa fn fc) L A' sn said ended cur ss)
  case rest =>
    obtain ⟨L, A', c', sn, said, ended, cur, ss, rfl, hE⟩ := hcut
    obtain ⟨na, nn, nc, rfl⟩ := own_form hE.rs.seen
    have c0 : wc.cell? ⟨rb, 0, none⟩ = some (.slice fa fn fc) := hE.rs.blk.cell 0
    have c1 : wc.cell? ⟨rb, 1, none⟩ = some (.slice na nn nc) := hE.rs.blk.cell 1
    have c2 : wc.cell? ⟨rb, 2, none⟩ = some (.slice none 0 0) := hE.rs.blk.cell 2
    have c3 : wc.cell? ⟨rb, 3, none⟩ = some (.int .i64 0) := hE.rs.blk.cell 3
    have c4 : wc.cell? ⟨rb, 4, none⟩ = some (.int .i64 (-1)) := hE.rs.blk.cell 4
    have c5 : wc.cell? ⟨rb, 5, none⟩ = some (.bool said) := hE.rs.blk.cell 5
    have c6 : wc.cell? ⟨rb, 6, none⟩ = some (.bool ended) := hE.rs.blk.cell 6
    have z2 := hE.rs.blk.frozen 2
    have d0 : wc.cell? ⟨w.heap.size, 0, none⟩ = some (.slice none 0 0) := hE.res.cell 0
    have d1 : wc.cell? ⟨w.heap.size, 1, none⟩ = some (.slice none 0 0) := hE.res.cell 1
    have d2 : wc.cell? ⟨w.heap.size, 2, none⟩ = some (.slice none 0 0) := hE.res.cell 2
    have d3 : wc.cell? ⟨w.heap.size, 3, none⟩ = some (.int .i64 0) := hE.res.cell 3
    have d4 : wc.cell? ⟨w.heap.size, 4, none⟩ = some (.int .i64 0) := hE.res.cell 4
    have d5 : wc.cell? ⟨w.heap.size, 5, none⟩ = some (.bool false) := hE.res.cell 5
    have d6 : wc.cell? ⟨w.heap.size, 6, none⟩ = some (.bool false) := hE.res.cell 6
    have f0 := hE.res.frozen 0
    have f1 := hE.res.frozen 1
    have f2 := hE.res.frozen 2
    have f3 := hE.res.frozen 3
    have f4 := hE.res.frozen 4
    have f5 := hE.res.frozen 5
    have f6 := hE.res.frozen 6
    have hrb := hE.rs.rbB
    have hne : rb ≠ w.heap.size := by omega
    have HE := hide hE
    have Hres := hide (hE.res.far (p := ⟨rb, 2, none⟩) (fun e => hne e.symm) (.slice A' L.length c'))
    have Hoff := hide (((Off.refl (fun j => j = rb ∨ j = w.heap.size) wc).setCell (p := ⟨rb, 2, none⟩) (fun _ => .inl rfl) (.slice A' L.length c')))
    clear hE
    go_wp2_with fail
    (try simp only [Exit.inBlock, Exit.then])
    refine bodyPost_ret (results_cell_row rfl _ _ w.heap.size 40 (readCells (.slice fa fn fc) (.slice na nn nc) (.slice A' L.length c') 0 (-1) said ended) (0, 0) _ rfl ((((((((Hres.out.set_ 0 (.slice fa fn fc)).set_ 1 (.slice na nn nc)).set_ 2 (.slice A' L.length c')).set_ 3 (.int .i64 0)).set_ 4 (.int .i64 (-1))).set_ 5 (.bool said)).set_ 6 (.bool ended))) Tryz.underlying40 rfl (by kernel_rfl)) rfl ?_
    exact sparse_end HE.out (((((((Hoff.out.setCell (p := ⟨w.heap.size, 0, none⟩) (fun _ => .inr rfl) _).setCell (p := ⟨w.heap.size, 1, none⟩) (fun _ => .inr rfl) _).setCell (p := ⟨w.heap.size, 2, none⟩) (fun _ => .inr rfl) _).setCell (p := ⟨w.heap.size, 3, none⟩) (fun _ => .inr rfl) _).setCell (p := ⟨w.heap.size, 4, none⟩) (fun _ => .inr rfl) _).setCell (p := ⟨w.heap.size, 5, none⟩) (fun _ => .inr rfl) _).setCell (p := ⟨w.heap.size, 6, none⟩) (fun _ => .inr rfl) _)
  case first =>
    go_wp2_with fail
    go_loopw [1] (fun a1 wr => ∃ L A' c' sn said cur ss, a1 = .slice A' L.length c' ∧ SRel fs args w wr rb (.slice fa fn fc) L A' c' sn said cur ss) (fun a1 _ => lenOf a1)
    case atStart => exact ⟨args, Ax, cx, _, true, fs, [], rfl, hst.out⟩
    case round =>
      obtain ⟨L, A', c', sn, said, cur, ss, rfl, hS⟩ := hrel
      have HS := hide hS
      clear hst
      rcases L with _ | ⟨s, r⟩
      · clear hS
        go_wp2_with fail
        go_meet
        case rel => exact ⟨[], A', c', sn, said, false, cur, ss, rfl, HS.out.stop (fun s r h => by cases h)⟩
      · obtain ⟨b, off, rfl, hbB, hcell⟩ := hS.texts 0 (by simp)
        have c0 : wr.cell? ⟨b, off, none⟩ = some (.string s) := hcell 0 s rfl
        have hss : s.size ≤ 1048576 := hS.size s (by simp)
        have hcap := hS.cap
        rw [List.length_cons] at hcap
        clear hcell hS
        have dl : decide ((0 : Int) < ((s :: r).length : Int)) = true := by simp
        have hlp : (0 : Int) < ((r.length : Int) + 1) := by omega
        by_cases h1 : 1 < s.size
        · have d1 : decide ((1 : Int) < (s.size : Int)) = true := by simp; omega
          have h0 : 0 < s.size := by omega
          cases z : ((s[0].toNat : Int) == 45) with
          | false =>
            go_wp2_with fail
            go_meet
            case rel => exact ⟨s :: r, _, c', sn, said, false, cur, ss, rfl, HS.out.stop (fun s' r' h => by cases h; exact .inr (by rw [hasB_lt h0]; exact z))⟩
          | true =>
            go_upto_region 5 with fail
            have hps : (s.extract 1 s.size).size = s.size - 1 := by rw [ByteArray.size_extract]; omega
            have HP := hide (extract_tail s)
            obtain ⟨At, hAt⟩ : ∃ At, At = (if c' = 1 then some (⟨b, off, none⟩ : Addr) else some ⟨b, off + 1, none⟩) := ⟨_, rfl⟩
            have HT := hide (show TextsIn wr w.heap.size At r by rw [hAt]; exact TextsIn.tail HS.out.texts c' HS.out.cap)
            rw [← hAt]
            clear hAt c0 dl
            generalize s.extract 1 s.size = q at *
            have hq0 : 0 < q.size := by omega
            have Hps := hide hps
            clear hps
            go_cut [40] from 38 to 40 (fun c40 w1 => wr = w1 ∧ ∃ m, c40 = .bool m ∧ m = ((q[0].toNat : Int) == 45))
            case first =>
              go_wp2_with fail
              go_meet
              case rel => exact ⟨rfl, _, rfl, rfl⟩
            case rest =>
              obtain ⟨rfl, m, rfl, hm⟩ := hcut
              have Hm := hide hm
              clear hm
              go_upto_if 40 with fail
              go_cut [6] from 41 to 45 (fun c6 w1 => wr = w1 ∧ ∃ bb, c6 = .string bb ∧ Hyph s bb)
              case first =>
                cases m with
                | false =>
                  go_wp2_with fail
                  go_meet
                  case rel => exact ⟨rfl, _, rfl, HP.out.plain h1 z Hm.out⟩
                | true =>
                  by_cases h2 : q.size = 1
                  · have e0 : (q.extract 1 q.size).toList = [] := toList_nil (by rw [ByteArray.size_extract]; omega)
                    have e1 : ((q.extract 1 q.size).toList == []) = true := by rw [e0]; rfl
                    have y6 := HS.out.rs.blk.frozen 6
                    have c6 : wr.cell? ⟨rb, 6, none⟩ = some (.bool false) := HS.out.rs.blk.cell 6
                    go_wp2_with fail
                    go_meet
                    case rel => exact ⟨r, At, c' - 1, sn, said, true, cur, ss, rfl, HS.out.term HT.out (HP.out.dashes h1 z Hm.out h2)⟩
                  · have e0 : (q.extract 1 q.size).toList.isEmpty = false := toList_ne (by rw [ByteArray.size_extract]; omega)
                    go_wp2_with fail
                    go_meet
                    case rel => exact ⟨rfl, _, rfl, HP.out.double h1 z Hm.out (by omega)⟩
              case rest =>
                obtain ⟨rfl, bb, rfl, hbb⟩ := hcut
                have hb0 : 0 < bb.size := hbb.1
                have hbs : bb.size ≤ 1048576 := Nat.le_trans hbb.2.1 hss
                have Hbb := hide hbb
                obtain ⟨na, nn, nc, rfl⟩ := own_form HS.out.rs.seen
                have HB := hide HS.out.rs.blk
                have HR := hide HS.out.res
                have HO := hide HS.out.off
                have HrB := hide HS.out.rs.rbB
                have HNE : Hid (¬ w.heap.size = rb) := hide (fun e => by have := HrB.out; omega)
                clear hbb z HP Hps hq0 Hm
                cases z1 : ((bb[0].toNat : Int) == 45) with
                | true =>
                  go_wp2_with (first | (go_at_call 37; refine (wrong_any rb fa na none fn nn 0 fc nc 0 0 (-1) said false 2 (-1) _ HB.out).mono ?_; rintro e w5 ⟨rfl, ho5⟩; unfold readCells; have hr5 := hide (HR.out.off ho5 HNE.out); have d0 : w5.cell? ⟨w.heap.size, 0, none⟩ = some (.slice none 0 0) := hr5.out.cell 0; have f0 := hr5.out.frozen 0; have d1 : w5.cell? ⟨w.heap.size, 1, none⟩ = some (.slice none 0 0) := hr5.out.cell 1; have f1 := hr5.out.frozen 1; have d2 : w5.cell? ⟨w.heap.size, 2, none⟩ = some (.slice none 0 0) := hr5.out.cell 2; have f2 := hr5.out.frozen 2; have d3 : w5.cell? ⟨w.heap.size, 3, none⟩ = some (.int .i64 0) := hr5.out.cell 3; have f3 := hr5.out.frozen 3; have d4 : w5.cell? ⟨w.heap.size, 4, none⟩ = some (.int .i64 0) := hr5.out.cell 4; have f4 := hr5.out.frozen 4; have d5 : w5.cell? ⟨w.heap.size, 5, none⟩ = some (.bool false) := hr5.out.cell 5; have f5 := hr5.out.frozen 5; have d6 : w5.cell? ⟨w.heap.size, 6, none⟩ = some (.bool false) := hr5.out.cell 6; have f6 := hr5.out.frozen 6; have ho6 := hide ho5; clear ho5) | go_in)
                  (try simp only [Exit.inBlock, Exit.then])
                  refine bodyPost_ret (results_cell_row rfl _ _ w.heap.size 40 (readCells (.slice fa fn fc) (.slice na nn nc) (.slice none 0 0) 2 (-1) said false) (0, 0) _ rfl (((((((hr5.out.set_ 0 (.slice fa fn fc)).set_ 1 (.slice na nn nc)).set_ 2 (.slice none 0 0)).set_ 3 (.int .i64 2)).set_ 4 (.int .i64 (-1))).set_ 5 (.bool said)).set_ 6 (.bool false)) Tryz.underlying40 rfl (by kernel_rfl)) rfl ?_
                  exact sparse_wrong HO.out HrB.out ho6.out (by decide) ((((((((Off.refl (fun j => j = w.heap.size) w5).setCell (p := ⟨w.heap.size, 0, none⟩) (fun _ => rfl) _).setCell (p := ⟨w.heap.size, 1, none⟩) (fun _ => rfl) _).setCell (p := ⟨w.heap.size, 2, none⟩) (fun _ => rfl) _).setCell (p := ⟨w.heap.size, 3, none⟩) (fun _ => rfl) _).setCell (p := ⟨w.heap.size, 4, none⟩) (fun _ => rfl) _).setCell (p := ⟨w.heap.size, 5, none⟩) (fun _ => rfl) _).setCell (p := ⟨w.heap.size, 6, none⟩) (fun _ => rfl) _)
                | false =>
                  cases z2 : ((bb[0].toNat : Int) == 61) with
                  | true =>
                    go_wp2_with (first | (go_at_call 37; refine (wrong_any rb fa na none fn nn 0 fc nc 0 0 (-1) said false 2 (-1) _ HB.out).mono ?_; rintro e w5 ⟨rfl, ho5⟩; unfold readCells; have hr5 := hide (HR.out.off ho5 HNE.out); have d0 : w5.cell? ⟨w.heap.size, 0, none⟩ = some (.slice none 0 0) := hr5.out.cell 0; have f0 := hr5.out.frozen 0; have d1 : w5.cell? ⟨w.heap.size, 1, none⟩ = some (.slice none 0 0) := hr5.out.cell 1; have f1 := hr5.out.frozen 1; have d2 : w5.cell? ⟨w.heap.size, 2, none⟩ = some (.slice none 0 0) := hr5.out.cell 2; have f2 := hr5.out.frozen 2; have d3 : w5.cell? ⟨w.heap.size, 3, none⟩ = some (.int .i64 0) := hr5.out.cell 3; have f3 := hr5.out.frozen 3; have d4 : w5.cell? ⟨w.heap.size, 4, none⟩ = some (.int .i64 0) := hr5.out.cell 4; have f4 := hr5.out.frozen 4; have d5 : w5.cell? ⟨w.heap.size, 5, none⟩ = some (.bool false) := hr5.out.cell 5; have f5 := hr5.out.frozen 5; have d6 : w5.cell? ⟨w.heap.size, 6, none⟩ = some (.bool false) := hr5.out.cell 6; have f6 := hr5.out.frozen 6; have ho6 := hide ho5; clear ho5) | go_in)
                    (try simp only [Exit.inBlock, Exit.then])
                    refine bodyPost_ret (results_cell_row rfl _ _ w.heap.size 40 (readCells (.slice fa fn fc) (.slice na nn nc) (.slice none 0 0) 2 (-1) said false) (0, 0) _ rfl (((((((hr5.out.set_ 0 (.slice fa fn fc)).set_ 1 (.slice na nn nc)).set_ 2 (.slice none 0 0)).set_ 3 (.int .i64 2)).set_ 4 (.int .i64 (-1))).set_ 5 (.bool said)).set_ 6 (.bool false)) Tryz.underlying40 rfl (by kernel_rfl)) rfl ?_
                    exact sparse_wrong HO.out HrB.out ho6.out (by decide) ((((((((Off.refl (fun j => j = w.heap.size) w5).setCell (p := ⟨w.heap.size, 0, none⟩) (fun _ => rfl) _).setCell (p := ⟨w.heap.size, 1, none⟩) (fun _ => rfl) _).setCell (p := ⟨w.heap.size, 2, none⟩) (fun _ => rfl) _).setCell (p := ⟨w.heap.size, 3, none⟩) (fun _ => rfl) _).setCell (p := ⟨w.heap.size, 4, none⟩) (fun _ => rfl) _).setCell (p := ⟨w.heap.size, 5, none⟩) (fun _ => rfl) _).setCell (p := ⟨w.heap.size, 6, none⟩) (fun _ => rfl) _)
                  | false =>
                    have HSg := hide (sign_any bb wr (by omega))
                    go_upto_if 58 with (go_at_call 31; refine HSg.out.mono ?_; rintro e w5 ⟨rfl, rfl⟩)
                    go_cut [6, 7, 8] from 59 to 65 (fun c6 c7 c8 w1 => (∃ q, w1 = wr.drewN q) ∧ ∃ nm v has, c6 = .string nm ∧ c7 = .string v ∧ c8 = .bool has ∧ Split bb nm v has)
                    case first =>
                      by_cases hk : 0 ≤ signOf bb
                      · obtain ⟨k, hk', hkb⟩ := sign_nat bb hk
                        have hk1 : (0 : Int) ≤ signOf bb := hk
                        rw [hk'] at hk1
                        obtain ⟨b2, hb2⟩ : ∃ x, x = bb := ⟨_, rfl⟩
                        have Hk : Hid (signOf b2 = k) := hide (by rw [hb2]; exact hk')
                        have Hb2 := hide hb2
                        clear hb2
                        simp only [hk'] at *
                        go_upto_region 14 with fail
                        go_quiet (fail)
                        go_wp2_with fail
                        go_meet
                        case rel => exact ⟨⟨_, rfl⟩, _, _, _, rfl, rfl, rfl, .inl ⟨rfl, k, by rw [← Hb2.out]; exact Hk.out, rfl, rfl⟩⟩
                      · have hk1 : ¬ (0 : Int) ≤ signOf bb := hk
                        go_wp2_with fail
                        go_meet
                        case rel => exact ⟨⟨0, rfl⟩, _, _, _, rfl, rfl, rfl, .inr ⟨rfl, by omega, rfl, rfl⟩⟩
                    case rest =>
                      obtain ⟨⟨nq, rfl⟩, nm, v, has, rfl, rfl, rfl, hsp⟩ := hcut
                      have HSq := hide (HS.out.keep (w' := wr.drewN nq) ((Off.refl (fun _ => False) wr).drewN nq))
                      have HTq := hide (show TextsIn (wr.drewN nq) w.heap.size At r from HT.out)
                      have Hsp := hide hsp
                      have Hz1 := hide z1
                      have Hz2 := hide z2
                      clear HS HT HB HR HO hsp HSg z1 z2
                      generalize wr.drewN nq = wz at *
                      have HF := hide (find_any A c fs nm wz (by omega) ((Hin.out.below (HSq.out.off.below (fun j _ h => h) (Nat.le_refl _))).more HSq.out.off.size))
                      go_upto_region 16 with (go_at_call 14; refine HF.out.mono ?_; rintro e w6 ⟨rfl, hb6⟩; have hb6 := hide hb6)
                      have HS6 := hide (HSq.out.keep (off_of_below hb6.out))
                      have HT6 := hide (HTq.out.off (off_of_below (S := fun _ => False) hb6.out) HSq.out.off.size (fun _ _ h => h))
                      clear HSq HTq HF hb6
                      have HB := hide HS6.out.rs.blk
                      have HR := hide HS6.out.res
                      have HO := hide HS6.out.off
                      by_cases hi : findOf fs nm < 0
                      · have hi1 : decide (findOf fs nm < 0) = true := decide_eq_true hi
                        cases e1 : (nm.toList == [104]) with
                        | true =>
                          go_wp2_with (first | (go_at_call 37; refine (wrong_any rb fa na none fn nn 0 fc nc 0 0 (-1) said false 1 (-1) _ HB.out).mono ?_; rintro e w5 ⟨rfl, ho5⟩; unfold readCells; have hr5 := hide (HR.out.off ho5 HNE.out); have d0 : w5.cell? ⟨w.heap.size, 0, none⟩ = some (.slice none 0 0) := hr5.out.cell 0; have f0 := hr5.out.frozen 0; have d1 : w5.cell? ⟨w.heap.size, 1, none⟩ = some (.slice none 0 0) := hr5.out.cell 1; have f1 := hr5.out.frozen 1; have d2 : w5.cell? ⟨w.heap.size, 2, none⟩ = some (.slice none 0 0) := hr5.out.cell 2; have f2 := hr5.out.frozen 2; have d3 : w5.cell? ⟨w.heap.size, 3, none⟩ = some (.int .i64 0) := hr5.out.cell 3; have f3 := hr5.out.frozen 3; have d4 : w5.cell? ⟨w.heap.size, 4, none⟩ = some (.int .i64 0) := hr5.out.cell 4; have f4 := hr5.out.frozen 4; have d5 : w5.cell? ⟨w.heap.size, 5, none⟩ = some (.bool false) := hr5.out.cell 5; have f5 := hr5.out.frozen 5; have d6 : w5.cell? ⟨w.heap.size, 6, none⟩ = some (.bool false) := hr5.out.cell 6; have f6 := hr5.out.frozen 6; have ho6 := hide ho5; clear ho5) | go_in)
                          (try simp only [Exit.inBlock, Exit.then])
                          refine bodyPost_ret (results_cell_row rfl _ _ w.heap.size 40 (readCells (.slice fa fn fc) (.slice na nn nc) (.slice none 0 0) 1 (-1) said false) (0, 0) _ rfl (((((((hr5.out.set_ 0 (.slice fa fn fc)).set_ 1 (.slice na nn nc)).set_ 2 (.slice none 0 0)).set_ 3 (.int .i64 1)).set_ 4 (.int .i64 (-1))).set_ 5 (.bool said)).set_ 6 (.bool false)) Tryz.underlying40 rfl (by kernel_rfl)) rfl ?_
                          exact sparse_wrong HO.out HrB.out ho6.out (by decide) ((((((((Off.refl (fun j => j = w.heap.size) w5).setCell (p := ⟨w.heap.size, 0, none⟩) (fun _ => rfl) _).setCell (p := ⟨w.heap.size, 1, none⟩) (fun _ => rfl) _).setCell (p := ⟨w.heap.size, 2, none⟩) (fun _ => rfl) _).setCell (p := ⟨w.heap.size, 3, none⟩) (fun _ => rfl) _).setCell (p := ⟨w.heap.size, 4, none⟩) (fun _ => rfl) _).setCell (p := ⟨w.heap.size, 5, none⟩) (fun _ => rfl) _).setCell (p := ⟨w.heap.size, 6, none⟩) (fun _ => rfl) _)
                        | false =>
                          cases e2 : (nm.toList == [104, 101, 108, 112]) with
                          | true =>
                            go_wp2_with (first | (go_at_call 37; refine (wrong_any rb fa na none fn nn 0 fc nc 0 0 (-1) said false 1 (-1) _ HB.out).mono ?_; rintro e w5 ⟨rfl, ho5⟩; unfold readCells; have hr5 := hide (HR.out.off ho5 HNE.out); have d0 : w5.cell? ⟨w.heap.size, 0, none⟩ = some (.slice none 0 0) := hr5.out.cell 0; have f0 := hr5.out.frozen 0; have d1 : w5.cell? ⟨w.heap.size, 1, none⟩ = some (.slice none 0 0) := hr5.out.cell 1; have f1 := hr5.out.frozen 1; have d2 : w5.cell? ⟨w.heap.size, 2, none⟩ = some (.slice none 0 0) := hr5.out.cell 2; have f2 := hr5.out.frozen 2; have d3 : w5.cell? ⟨w.heap.size, 3, none⟩ = some (.int .i64 0) := hr5.out.cell 3; have f3 := hr5.out.frozen 3; have d4 : w5.cell? ⟨w.heap.size, 4, none⟩ = some (.int .i64 0) := hr5.out.cell 4; have f4 := hr5.out.frozen 4; have d5 : w5.cell? ⟨w.heap.size, 5, none⟩ = some (.bool false) := hr5.out.cell 5; have f5 := hr5.out.frozen 5; have d6 : w5.cell? ⟨w.heap.size, 6, none⟩ = some (.bool false) := hr5.out.cell 6; have f6 := hr5.out.frozen 6; have ho6 := hide ho5; clear ho5) | go_in)
                            (try simp only [Exit.inBlock, Exit.then])
                            refine bodyPost_ret (results_cell_row rfl _ _ w.heap.size 40 (readCells (.slice fa fn fc) (.slice na nn nc) (.slice none 0 0) 1 (-1) said false) (0, 0) _ rfl (((((((hr5.out.set_ 0 (.slice fa fn fc)).set_ 1 (.slice na nn nc)).set_ 2 (.slice none 0 0)).set_ 3 (.int .i64 1)).set_ 4 (.int .i64 (-1))).set_ 5 (.bool said)).set_ 6 (.bool false)) Tryz.underlying40 rfl (by kernel_rfl)) rfl ?_
                            exact sparse_wrong HO.out HrB.out ho6.out (by decide) ((((((((Off.refl (fun j => j = w.heap.size) w5).setCell (p := ⟨w.heap.size, 0, none⟩) (fun _ => rfl) _).setCell (p := ⟨w.heap.size, 1, none⟩) (fun _ => rfl) _).setCell (p := ⟨w.heap.size, 2, none⟩) (fun _ => rfl) _).setCell (p := ⟨w.heap.size, 3, none⟩) (fun _ => rfl) _).setCell (p := ⟨w.heap.size, 4, none⟩) (fun _ => rfl) _).setCell (p := ⟨w.heap.size, 5, none⟩) (fun _ => rfl) _).setCell (p := ⟨w.heap.size, 6, none⟩) (fun _ => rfl) _)
                          | false =>
                            go_wp2_with (first | (go_at_call 37; refine (wrong_any rb fa na none fn nn 0 fc nc 0 0 (-1) said false 2 (-1) _ HB.out).mono ?_; rintro e w5 ⟨rfl, ho5⟩; unfold readCells; have hr5 := hide (HR.out.off ho5 HNE.out); have d0 : w5.cell? ⟨w.heap.size, 0, none⟩ = some (.slice none 0 0) := hr5.out.cell 0; have f0 := hr5.out.frozen 0; have d1 : w5.cell? ⟨w.heap.size, 1, none⟩ = some (.slice none 0 0) := hr5.out.cell 1; have f1 := hr5.out.frozen 1; have d2 : w5.cell? ⟨w.heap.size, 2, none⟩ = some (.slice none 0 0) := hr5.out.cell 2; have f2 := hr5.out.frozen 2; have d3 : w5.cell? ⟨w.heap.size, 3, none⟩ = some (.int .i64 0) := hr5.out.cell 3; have f3 := hr5.out.frozen 3; have d4 : w5.cell? ⟨w.heap.size, 4, none⟩ = some (.int .i64 0) := hr5.out.cell 4; have f4 := hr5.out.frozen 4; have d5 : w5.cell? ⟨w.heap.size, 5, none⟩ = some (.bool false) := hr5.out.cell 5; have f5 := hr5.out.frozen 5; have d6 : w5.cell? ⟨w.heap.size, 6, none⟩ = some (.bool false) := hr5.out.cell 6; have f6 := hr5.out.frozen 6; have ho6 := hide ho5; clear ho5) | go_in)
                            (try simp only [Exit.inBlock, Exit.then])
                            refine bodyPost_ret (results_cell_row rfl _ _ w.heap.size 40 (readCells (.slice fa fn fc) (.slice na nn nc) (.slice none 0 0) 2 (-1) said false) (0, 0) _ rfl (((((((hr5.out.set_ 0 (.slice fa fn fc)).set_ 1 (.slice na nn nc)).set_ 2 (.slice none 0 0)).set_ 3 (.int .i64 2)).set_ 4 (.int .i64 (-1))).set_ 5 (.bool said)).set_ 6 (.bool false)) Tryz.underlying40 rfl (by kernel_rfl)) rfl ?_
                            exact sparse_wrong HO.out HrB.out ho6.out (by decide) ((((((((Off.refl (fun j => j = w.heap.size) w5).setCell (p := ⟨w.heap.size, 0, none⟩) (fun _ => rfl) _).setCell (p := ⟨w.heap.size, 1, none⟩) (fun _ => rfl) _).setCell (p := ⟨w.heap.size, 2, none⟩) (fun _ => rfl) _).setCell (p := ⟨w.heap.size, 3, none⟩) (fun _ => rfl) _).setCell (p := ⟨w.heap.size, 4, none⟩) (fun _ => rfl) _).setCell (p := ⟨w.heap.size, 5, none⟩) (fun _ => rfl) _).setCell (p := ⟨w.heap.size, 6, none⟩) (fun _ => rfl) _)
                      · have hi1 : decide (findOf fs nm < 0) = false := decide_eq_false hi
                        obtain ⟨i, f, hfi, hff, hfn⟩ := find_nat fs nm (by omega)
                        have hil := (List.getElem?_eq_some_iff.1 hff).1
                        obtain ⟨fb, fo, rfl, hfB, hfc⟩ := Hin.out i hil
                        have hfa := (hfc i f hff).below (HO.out.below (fun j _ h => h) (Nat.le_refl _)) hfB
                        have k1 : w6.cell? ⟨fb, fo + i * 5 + 1, none⟩ = some (.int .i64 f.kind) := hfa.2.1
                        have Hfi := hide hfi
                        rw [hfi] at hi1 ⊢
                        clear hi hfi hfc hfa
                        obtain ⟨g, hg⟩ : ∃ g, cur[i]? = some g := ⟨_, List.getElem?_eq_getElem (by rw [HS6.out.same.1]; exact hil)⟩
                        obtain ⟨hgn, hgk⟩ := HS6.out.same.2 i f g hff hg
                        have hBz : w.heap.size + 1 ≤ w6.heap.size := Nat.le_trans HrB.out (Nat.le_of_lt HS6.out.rs.blk.lt)
                        have hss1 : ss.length ≤ 1500 := by have := HS6.out.few; simp at this; omega
                        have Hbody := hide (body_of Hbb.out Hz1.out Hz2.out)
                        have Hg := hide hg
                        have Hff := hide hff
                        have Hfn := hide hfn
                        clear hg hff hfn hgn hgk
                        cases has with
                        | true =>
                          have Hmean : Hid (Means fs bb r i v r) := hide (means_has Hsp.out Hfi.out)
                          have hvs : v.size ≤ 1048576 := split_size Hsp.out hbs
                          have HSet := hide (rset_any (w.heap.size + 1) rb (.slice fa fn fc) (.slice na nn nc) (.slice none 0 0) 0 (-1) said false cur ss i g v w6 HS6.out.rs Hg.out hBz hss1 hvs)
                          go_upto_if 111 with (go_at_call 38; refine HSet.out.mono ?_; rintro e w8 ⟨ok, rfl, ho8, hfail, hok8⟩; have Ho8 := hide ho8; have Hfail := hide hfail; have Hok8 := hide hok8; clear ho8 hfail hok8)
                          cases ok with
                          | false =>
                            obtain ⟨said2, hb8⟩ := Hfail.out rfl
                            have HB8 := hide hb8
                            have HR8 := hide (HS6.out.res.off Ho8.out (by omega))
                            have HO8 := hide (HS6.out.off.trans Ho8.out (fun j _ h => by omega))
                            clear hb8
                            go_wp2_with (first | (go_at_call 37; refine (wrong_any rb fa na none fn nn 0 fc nc 0 0 (-1) said2 false 2 i _ HB8.out).mono ?_; rintro e w5 ⟨rfl, ho5⟩; unfold readCells; have hr5 := hide (HR8.out.off ho5 HNE.out); have d0 : w5.cell? ⟨w.heap.size, 0, none⟩ = some (.slice none 0 0) := hr5.out.cell 0; have f0 := hr5.out.frozen 0; have d1 : w5.cell? ⟨w.heap.size, 1, none⟩ = some (.slice none 0 0) := hr5.out.cell 1; have f1 := hr5.out.frozen 1; have d2 : w5.cell? ⟨w.heap.size, 2, none⟩ = some (.slice none 0 0) := hr5.out.cell 2; have f2 := hr5.out.frozen 2; have d3 : w5.cell? ⟨w.heap.size, 3, none⟩ = some (.int .i64 0) := hr5.out.cell 3; have f3 := hr5.out.frozen 3; have d4 : w5.cell? ⟨w.heap.size, 4, none⟩ = some (.int .i64 0) := hr5.out.cell 4; have f4 := hr5.out.frozen 4; have d5 : w5.cell? ⟨w.heap.size, 5, none⟩ = some (.bool false) := hr5.out.cell 5; have f5 := hr5.out.frozen 5; have d6 : w5.cell? ⟨w.heap.size, 6, none⟩ = some (.bool false) := hr5.out.cell 6; have f6 := hr5.out.frozen 6; have ho6 := hide ho5; clear ho5) | go_in)
                            (try simp only [Exit.inBlock, Exit.then])
                            refine bodyPost_ret (results_cell_row rfl _ _ w.heap.size 40 (readCells (.slice fa fn fc) (.slice na nn nc) (.slice none 0 0) 2 i said2 false) (0, 0) _ rfl (((((((hr5.out.set_ 0 (.slice fa fn fc)).set_ 1 (.slice na nn nc)).set_ 2 (.slice none 0 0)).set_ 3 (.int .i64 2)).set_ 4 (.int .i64 i)).set_ 5 (.bool said2)).set_ 6 (.bool false)) Tryz.underlying40 rfl (by kernel_rfl)) rfl ?_
                            exact sparse_wrong HO8.out HrB.out ho6.out (by decide) ((((((((Off.refl (fun j => j = w.heap.size) w5).setCell (p := ⟨w.heap.size, 0, none⟩) (fun _ => rfl) _).setCell (p := ⟨w.heap.size, 1, none⟩) (fun _ => rfl) _).setCell (p := ⟨w.heap.size, 2, none⟩) (fun _ => rfl) _).setCell (p := ⟨w.heap.size, 3, none⟩) (fun _ => rfl) _).setCell (p := ⟨w.heap.size, 4, none⟩) (fun _ => rfl) _).setCell (p := ⟨w.heap.size, 5, none⟩) (fun _ => rfl) _).setCell (p := ⟨w.heap.size, 6, none⟩) (fun _ => rfl) _)
                          | true =>
                            obtain ⟨g', sn', ss', said', ht, hst, hrs⟩ := Hok8.out rfl
                            obtain ⟨na2, nn2, nc2, rfl⟩ := own_form hrs.seen
                            have HN := hide (HS6.out.next (n := 0) (c' := c' - 1) Hbody.out (Hmean.out) Hg.out ht hst hrs Ho8.out HT6.out (by have := HS6.out.cap; simp at this; omega) rfl)
                            clear ht hst hrs
                            go_wp2_with fail
                            go_roundw
                            case rel => exact ⟨_, _, _, _, _, _, _, rfl, HN.out⟩
                            case measure => simp [lenOf]; try omega
                        | false =>
                          obtain ⟨hsg, hnm, rfl⟩ := split_none Hsp.out
                          have Hsg := hide hsg
                          have Hfb : Hid (findOf fs bb = i) := hide (by rw [hnm]; exact Hfi.out)
                          clear hsg hnm
                          by_cases hk0 : f.kind = 0
                          · have q0 : (f.kind == 0) = true := by simp [hk0]
                            have Hmean : Hid (Means fs bb r i ⟨#[116, 114, 117, 101]⟩ r) := hide (.inr (.inl ⟨Hsg.out, Hfb.out, fun f' h => by rw [Hff.out] at h; cases h; exact hk0, rfl, rfl⟩))
                            clear hk0
                            have hvs : (⟨#[116, 114, 117, 101]⟩ : ByteArray).size ≤ 1048576 := by decide
                            have HSet := hide (rset_any (w.heap.size + 1) rb (.slice fa fn fc) (.slice na nn nc) (.slice none 0 0) 0 (-1) said false cur ss i g ⟨#[116, 114, 117, 101]⟩ w6 HS6.out.rs Hg.out hBz hss1 hvs)
                            go_upto_if 111 with (go_at_call 38; refine HSet.out.mono ?_; rintro e w8 ⟨ok, rfl, ho8, hfail, hok8⟩; have Ho8 := hide ho8; have Hfail := hide hfail; have Hok8 := hide hok8; clear ho8 hfail hok8)
                            cases ok with
                            | false =>
                              obtain ⟨said2, hb8⟩ := Hfail.out rfl
                              have HB8 := hide hb8
                              have HR8 := hide (HS6.out.res.off Ho8.out (by omega))
                              have HO8 := hide (HS6.out.off.trans Ho8.out (fun j _ h => by omega))
                              clear hb8
                              go_wp2_with (first | (go_at_call 37; refine (wrong_any rb fa na none fn nn 0 fc nc 0 0 (-1) said2 false 2 i _ HB8.out).mono ?_; rintro e w5 ⟨rfl, ho5⟩; unfold readCells; have hr5 := hide (HR8.out.off ho5 HNE.out); have d0 : w5.cell? ⟨w.heap.size, 0, none⟩ = some (.slice none 0 0) := hr5.out.cell 0; have f0 := hr5.out.frozen 0; have d1 : w5.cell? ⟨w.heap.size, 1, none⟩ = some (.slice none 0 0) := hr5.out.cell 1; have f1 := hr5.out.frozen 1; have d2 : w5.cell? ⟨w.heap.size, 2, none⟩ = some (.slice none 0 0) := hr5.out.cell 2; have f2 := hr5.out.frozen 2; have d3 : w5.cell? ⟨w.heap.size, 3, none⟩ = some (.int .i64 0) := hr5.out.cell 3; have f3 := hr5.out.frozen 3; have d4 : w5.cell? ⟨w.heap.size, 4, none⟩ = some (.int .i64 0) := hr5.out.cell 4; have f4 := hr5.out.frozen 4; have d5 : w5.cell? ⟨w.heap.size, 5, none⟩ = some (.bool false) := hr5.out.cell 5; have f5 := hr5.out.frozen 5; have d6 : w5.cell? ⟨w.heap.size, 6, none⟩ = some (.bool false) := hr5.out.cell 6; have f6 := hr5.out.frozen 6; have ho6 := hide ho5; clear ho5) | go_in)
                              (try simp only [Exit.inBlock, Exit.then])
                              refine bodyPost_ret (results_cell_row rfl _ _ w.heap.size 40 (readCells (.slice fa fn fc) (.slice na nn nc) (.slice none 0 0) 2 i said2 false) (0, 0) _ rfl (((((((hr5.out.set_ 0 (.slice fa fn fc)).set_ 1 (.slice na nn nc)).set_ 2 (.slice none 0 0)).set_ 3 (.int .i64 2)).set_ 4 (.int .i64 i)).set_ 5 (.bool said2)).set_ 6 (.bool false)) Tryz.underlying40 rfl (by kernel_rfl)) rfl ?_
                              exact sparse_wrong HO8.out HrB.out ho6.out (by decide) ((((((((Off.refl (fun j => j = w.heap.size) w5).setCell (p := ⟨w.heap.size, 0, none⟩) (fun _ => rfl) _).setCell (p := ⟨w.heap.size, 1, none⟩) (fun _ => rfl) _).setCell (p := ⟨w.heap.size, 2, none⟩) (fun _ => rfl) _).setCell (p := ⟨w.heap.size, 3, none⟩) (fun _ => rfl) _).setCell (p := ⟨w.heap.size, 4, none⟩) (fun _ => rfl) _).setCell (p := ⟨w.heap.size, 5, none⟩) (fun _ => rfl) _).setCell (p := ⟨w.heap.size, 6, none⟩) (fun _ => rfl) _)
                            | true =>
                              obtain ⟨g', sn', ss', said', ht, hst, hrs⟩ := Hok8.out rfl
                              obtain ⟨na2, nn2, nc2, rfl⟩ := own_form hrs.seen
                              have HN := hide (HS6.out.next (n := 0) (c' := c' - 1) Hbody.out (Hmean.out) Hg.out ht hst hrs Ho8.out HT6.out (by have := HS6.out.cap; simp at this; omega) rfl)
                              clear ht hst hrs
                              go_wp2_with fail
                              go_roundw
                              case rel => exact ⟨_, _, _, _, _, _, _, rfl, HN.out⟩
                              case measure => simp [lenOf]; try omega
                          · have q0 : (f.kind == 0) = false := by simpa using hk0
                            have Hk0 := hide hk0
                            clear hk0
                            rcases r with _ | ⟨v2, r2⟩
                            · go_wp2_with (first | (go_at_call 37; refine (wrong_any rb fa na none fn nn 0 fc nc 0 0 (-1) said false 2 (-1) _ HB.out).mono ?_; rintro e w5 ⟨rfl, ho5⟩; unfold readCells; have hr5 := hide (HR.out.off ho5 HNE.out); have d0 : w5.cell? ⟨w.heap.size, 0, none⟩ = some (.slice none 0 0) := hr5.out.cell 0; have f0 := hr5.out.frozen 0; have d1 : w5.cell? ⟨w.heap.size, 1, none⟩ = some (.slice none 0 0) := hr5.out.cell 1; have f1 := hr5.out.frozen 1; have d2 : w5.cell? ⟨w.heap.size, 2, none⟩ = some (.slice none 0 0) := hr5.out.cell 2; have f2 := hr5.out.frozen 2; have d3 : w5.cell? ⟨w.heap.size, 3, none⟩ = some (.int .i64 0) := hr5.out.cell 3; have f3 := hr5.out.frozen 3; have d4 : w5.cell? ⟨w.heap.size, 4, none⟩ = some (.int .i64 0) := hr5.out.cell 4; have f4 := hr5.out.frozen 4; have d5 : w5.cell? ⟨w.heap.size, 5, none⟩ = some (.bool false) := hr5.out.cell 5; have f5 := hr5.out.frozen 5; have d6 : w5.cell? ⟨w.heap.size, 6, none⟩ = some (.bool false) := hr5.out.cell 6; have f6 := hr5.out.frozen 6; have ho6 := hide ho5; clear ho5) | go_in)
                              (try simp only [Exit.inBlock, Exit.then])
                              refine bodyPost_ret (results_cell_row rfl _ _ w.heap.size 40 (readCells (.slice fa fn fc) (.slice na nn nc) (.slice none 0 0) 2 (-1) said false) (0, 0) _ rfl (((((((hr5.out.set_ 0 (.slice fa fn fc)).set_ 1 (.slice na nn nc)).set_ 2 (.slice none 0 0)).set_ 3 (.int .i64 2)).set_ 4 (.int .i64 (-1))).set_ 5 (.bool said)).set_ 6 (.bool false)) Tryz.underlying40 rfl (by kernel_rfl)) rfl ?_
                              exact sparse_wrong HO.out HrB.out ho6.out (by decide) ((((((((Off.refl (fun j => j = w.heap.size) w5).setCell (p := ⟨w.heap.size, 0, none⟩) (fun _ => rfl) _).setCell (p := ⟨w.heap.size, 1, none⟩) (fun _ => rfl) _).setCell (p := ⟨w.heap.size, 2, none⟩) (fun _ => rfl) _).setCell (p := ⟨w.heap.size, 3, none⟩) (fun _ => rfl) _).setCell (p := ⟨w.heap.size, 4, none⟩) (fun _ => rfl) _).setCell (p := ⟨w.heap.size, 5, none⟩) (fun _ => rfl) _).setCell (p := ⟨w.heap.size, 6, none⟩) (fun _ => rfl) _)
                            · obtain ⟨b2, off2, rfl, hb2B, hcell2⟩ := HT6.out 0 (by simp)
                              have c2 : w6.cell? ⟨b2, off2, none⟩ = some (.string v2) := hcell2 0 v2 rfl
                              have hcap6 := HS6.out.cap
                              have hvs : v2.size ≤ 1048576 := HS6.out.size v2 (by simp)
                              simp only [List.length_cons] at hcap6
                              clear hcell2
                              have hl2 : ¬ ((r2.length : Int) + 1 = 0) := by omega
                              have Hmean : Hid (Means fs bb (v2 :: r2) i v2 r2) := hide (.inr (.inr ⟨Hsg.out, Hfb.out, fun f' h => by rw [Hff.out] at h; cases h; exact Hk0.out, rfl⟩))
                              go_upto_region 25 with fail
                              go_quiet (fail)
                              obtain ⟨At2, hAt2⟩ : ∃ At2, At2 = (if c' = 2 then some (⟨b2, off2, none⟩ : Addr) else some ⟨b2, off2 + 1, none⟩) := ⟨_, rfl⟩
                              have HT7 := hide (show TextsIn (w6.drewN nq) w.heap.size At2 r2 by rw [hAt2]; have ht := TextsIn.tail HT6.out (c' - 1) (by simp only [List.length_cons]; omega); rw [ite_pred] at ht; exact ht)
                              have HS7 := hide (HS6.out.keep (w' := w6.drewN nq) ((Off.refl (fun _ => False) w6).drewN nq))
                              rw [← hAt2]
                              clear hAt2 c2 k1 HB HR HO HS6 HT6
                              generalize w6.drewN nq = w7 at *
                              clear hBz
                              have hBz : w.heap.size + 1 ≤ w7.heap.size := Nat.le_trans HrB.out (Nat.le_of_lt HS7.out.rs.blk.lt)
                              have HSet := hide (rset_any (w.heap.size + 1) rb (.slice fa fn fc) (.slice na nn nc) (.slice none 0 0) 0 (-1) said false cur ss i g v2 w7 HS7.out.rs Hg.out hBz hss1 hvs)
                              go_upto_if 111 with (go_at_call 38; refine HSet.out.mono ?_; rintro e w8 ⟨ok, rfl, ho8, hfail, hok8⟩; have Ho8 := hide ho8; have Hfail := hide hfail; have Hok8 := hide hok8; clear ho8 hfail hok8)
                              cases ok with
                              | false =>
                                obtain ⟨said2, hb8⟩ := Hfail.out rfl
                                have HB8 := hide hb8
                                have HR8 := hide (HS7.out.res.off Ho8.out (by omega))
                                have HO8 := hide (HS7.out.off.trans Ho8.out (fun j _ h => by omega))
                                clear hb8
                                go_wp2_with (first | (go_at_call 37; refine (wrong_any rb fa na none fn nn 0 fc nc 0 0 (-1) said2 false 2 i _ HB8.out).mono ?_; rintro e w5 ⟨rfl, ho5⟩; unfold readCells; have hr5 := hide (HR8.out.off ho5 HNE.out); have d0 : w5.cell? ⟨w.heap.size, 0, none⟩ = some (.slice none 0 0) := hr5.out.cell 0; have f0 := hr5.out.frozen 0; have d1 : w5.cell? ⟨w.heap.size, 1, none⟩ = some (.slice none 0 0) := hr5.out.cell 1; have f1 := hr5.out.frozen 1; have d2 : w5.cell? ⟨w.heap.size, 2, none⟩ = some (.slice none 0 0) := hr5.out.cell 2; have f2 := hr5.out.frozen 2; have d3 : w5.cell? ⟨w.heap.size, 3, none⟩ = some (.int .i64 0) := hr5.out.cell 3; have f3 := hr5.out.frozen 3; have d4 : w5.cell? ⟨w.heap.size, 4, none⟩ = some (.int .i64 0) := hr5.out.cell 4; have f4 := hr5.out.frozen 4; have d5 : w5.cell? ⟨w.heap.size, 5, none⟩ = some (.bool false) := hr5.out.cell 5; have f5 := hr5.out.frozen 5; have d6 : w5.cell? ⟨w.heap.size, 6, none⟩ = some (.bool false) := hr5.out.cell 6; have f6 := hr5.out.frozen 6; have ho6 := hide ho5; clear ho5) | go_in)
                                (try simp only [Exit.inBlock, Exit.then])
                                refine bodyPost_ret (results_cell_row rfl _ _ w.heap.size 40 (readCells (.slice fa fn fc) (.slice na nn nc) (.slice none 0 0) 2 i said2 false) (0, 0) _ rfl (((((((hr5.out.set_ 0 (.slice fa fn fc)).set_ 1 (.slice na nn nc)).set_ 2 (.slice none 0 0)).set_ 3 (.int .i64 2)).set_ 4 (.int .i64 i)).set_ 5 (.bool said2)).set_ 6 (.bool false)) Tryz.underlying40 rfl (by kernel_rfl)) rfl ?_
                                exact sparse_wrong HO8.out HrB.out ho6.out (by decide) ((((((((Off.refl (fun j => j = w.heap.size) w5).setCell (p := ⟨w.heap.size, 0, none⟩) (fun _ => rfl) _).setCell (p := ⟨w.heap.size, 1, none⟩) (fun _ => rfl) _).setCell (p := ⟨w.heap.size, 2, none⟩) (fun _ => rfl) _).setCell (p := ⟨w.heap.size, 3, none⟩) (fun _ => rfl) _).setCell (p := ⟨w.heap.size, 4, none⟩) (fun _ => rfl) _).setCell (p := ⟨w.heap.size, 5, none⟩) (fun _ => rfl) _).setCell (p := ⟨w.heap.size, 6, none⟩) (fun _ => rfl) _)
                              | true =>
                                obtain ⟨g', sn', ss', said', ht, hst, hrs⟩ := Hok8.out rfl
                                obtain ⟨na2, nn2, nc2, rfl⟩ := own_form hrs.seen
                                have HN := hide (HS7.out.next (n := 0) (c' := c' - 1 - 1) Hbody.out (Hmean.out) Hg.out ht hst hrs Ho8.out HT7.out (by have := HS7.out.cap; simp at this; omega) rfl)
                                clear ht hst hrs
                                go_wp2_with fail
                                go_roundw
                                case rel => exact ⟨_, _, _, _, _, _, _, rfl, HN.out⟩
                                case measure => simp [lenOf]; try omega
        · have d1 : decide ((1 : Int) < (s.size : Int)) = false := by simp; omega
          go_wp2_with fail
          go_meet
          case rel => exact ⟨s :: r, _, c', sn, said, false, cur, ss, rfl, HS.out.stop (fun s' r' h => by cases h; exact .inl (by omega))⟩
end Go.Proofs.YtpcmiaablanmeaaGreatDoor
