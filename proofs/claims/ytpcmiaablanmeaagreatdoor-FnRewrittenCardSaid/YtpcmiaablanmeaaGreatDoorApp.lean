/- 'append' on lists of texts that a call has made. -/
import Derived.Test.YtpcmiaablanmeaaGreatDoorIPar
import Derived.Test.YtpcmiaablanmeaaGreatDoorEqZ
import Derived.Laws.AppendOwnNone
namespace Go.Proofs.YtpcmiaablanmeaaGreatDoor
open Go.RowKit

theorem append_texts {w : World} {ops : Array Oper} {rest : List Oper} {o : Oper} {a : Act} {Q : Exit → Act → World → Prop} (hgd : o.guard = none) (s x : Operand)
    (ho : o.op = .call { callee := .builtin .append, args := #[s, x], argTypes := #[26, 26] }) (base : Nat) (v : Value) (n k : Nat) (xs ys zs : List ByteArray) (hn : xs.length = n) (hk : zs.length = k) (hz : xs ++ ys = zs)
    (hs : a.eval s = v) (hown : w.ownsRow base 9 1 v n (xs.map Value.string)) (A : Option Addr) (m c : Nat) (hm : ys.length = m) (hx : a.eval x = .slice A m c) (hA : TextsAt w A ys) (hnil : A = none → c = 0) (hlim : k ≤ 1000000) (hbase : base ≤ w.heap.size)
    (h : ∀ A' c' w', w'.ownsRow base 9 1 (.slice A' k c') k (zs.map Value.string) → w.grownBy w' v.ownBlock → wpList Tryz.prog ops Q rest (a.put o.dst (.slice A' k c')) w') : wpList Tryz.prog ops Q (o :: rest) a w := by
  obtain ⟨i0, hi0, hz00, hz01, hz02⟩ := info_parts Tryz.infoText
  have hk' : n + m = k := by rw [← hk, ← hz, List.length_append, hn, hm]
  rcases A with _ | ad
  · have hy : ys = [] := by
      rcases ys with _ | ⟨t, r⟩
      · rfl
      · obtain ⟨b, off, hb, _⟩ := hA 0 (by simp)
        cases hb
    subst hy
    have hc := hnil rfl
    subst hc
    have hm0 : m = 0 := by rw [← hm]; rfl
    subst hm0
    rw [List.append_nil] at hz
    subst hz
    obtain ⟨A', c', hv⟩ := own_lenN hown
    subst hv
    have hnk : n = k := by omega
    subst hnk
    exact wpList_append_own_none hgd s x _ ho base _ i0 1 Tryz.underlying26 hi0 _ n _ hs hown hx (h A' c' w hown ⟨rfl, rfl, rfl, Nat.le_refl _, fun _ _ _ => rfl⟩)
  · refine wpList_append_own _ hgd s x _ ho base _ i0 _ 1 16 Tryz.underlying26 hi0 hz00 hz01 hz02 rfl (by decide) v n _ hs hown ad m c (ys.map Value.string) hx (by rw [List.length_map, hm, Nat.mul_one]) (fun j u hj => ?_) (fun u hu => by obtain ⟨t, _, rfl⟩ := List.mem_map.1 hu; rfl) (by unfold maxLen; omega) (by omega) hbase (fun v' w' h1 h2 _ => ?_)
    · rw [List.getElem?_map] at hj
      obtain ⟨t, ht, rfl⟩ := Option.map_eq_some_iff.1 hj
      have hjl := (List.getElem?_eq_some_iff.1 ht).1
      obtain ⟨b, off, hb, hc⟩ := hA 0 (by omega)
      cases hb
      rw [addr_plus_]
      exact hc j t ht
    · rw [hk', ← List.map_append, hz] at h1
      obtain ⟨A', c', hv⟩ := own_lenN h1
      subst hv
      exact h A' c' w' h1 h2

theorem TextsAt.off {w w' : World} {A : Option Addr} {ts : List ByteArray} (h : TextsAt w A ts) (ho : Off (fun _ => False) w w') : TextsAt w' A ts := fun i hi => by
  obtain ⟨b, off, hA, hc⟩ := h i hi
  refine ⟨b, off, hA, fun j s hj => ?_⟩
  have h1 := hc j s hj
  exact (Off.cell_ ho (p := ⟨b, off + j, none⟩) (lt_of_cell h1) (fun h => h)).trans h1

theorem off_grow {w0 w w' : World} {base : Nat} {v : Value} {n : Nat} {xs : List Value} (ho : Off (fun _ => False) w0 w) (hown : w.ownsRow base 9 1 v n xs) (hg : w.grownBy w' v.ownBlock) (hb : w0.heap.size ≤ base) : Off (fun _ => False) w0 w' :=
  ho.trans (off_of_grown (S := fun j => base ≤ j) hg (fun j _ h => (own_blkN hown h).1)) (fun j hj h => by omega)

theorem texts_new (w : World) (s : ByteArray) : TextsAt (w.alloc (.cells #[.string s] 9)) (some ⟨w.heap.size, 0, none⟩) [s] := fun i hi => by
  refine ⟨w.heap.size, 0, rfl, fun j t hj => ?_⟩
  have hj0 : j = 0 := by have := (List.getElem?_eq_some_iff.1 hj).1; simp at this; exact this
  subst hj0
  simp at hj
  subst hj
  exact (Blk.new w 9 #[.string s]).cell 0

theorem own_textsIn {w : World} {B : Nat} {a : Option Addr} {c k : Nat} {ts : List ByteArray} (h : w.ownsRow B 9 1 (.slice a k c) k (ts.map Value.string)) (hk : ts.length = k) : TextsIn w w.heap.size a ts ∧ (a = none → c = 0) := by
  subst hk
  have ht := own_texts h
  refine ⟨fun i hi => ?_, fun ha => ?_⟩
  · obtain ⟨b, off, hb, hc⟩ := ht i hi
    have h1 := hc i _ (List.getElem?_eq_getElem hi)
    exact ⟨b, off, hb, lt_of_cell h1, hc⟩
  · rcases h.2 with ⟨h1, h0⟩ | ⟨g, cap, cur, h1, _⟩
    · injection h1 with _ _ h3
    · injection h1 with h2 _ _
      rw [ha] at h2
      cases h2

theorem FlagsRd.drewN {w : World} {A : Option Addr} {fs : List FD} (h : FlagsRd w A fs) (q : Nat) : FlagsRd (w.drewN q) A fs := h
theorem TextsAt.drewN {w : World} {A : Option Addr} {ts : List ByteArray} (h : TextsAt w A ts) (q : Nat) : TextsAt (w.drewN q) A ts := h
theorem below_drewN {B : Nat} {w w' : World} (h : Below B w w') (q : Nat) : Below B w (w'.drewN q) := ⟨h.os, h.tape, h.output, h.size, h.block⟩
theorem reads_seen {fs cur : List FD} {args seen : List ByteArray} {cur' : List FD} {seen' rest : List ByteArray} {ended : Bool} (h : Reads fs cur args seen cur' seen' rest ended) : seen'.length ≤ seen.length + args.length := by
  induction h with
  | stop cur args seen h => omega
  | term cur s rest seen h => omega
  | step cur s b rest seen i v rest' f f' seen1 cur' seen' rest'' ended hb hm hf ht hs next ih =>
    have := means_len hm
    have h2 : seen1.length ≤ seen.length + 1 := by
      rcases hs with ⟨_, rfl⟩ | ⟨_, h⟩
      · omega
      · rw [h.length_eq, List.length_cons]; exact Nat.le_refl _
    rw [List.length_cons]
    omega

theorem flat_rd {w : World} {B : Nat} {a : Option Addr} {c : Nat} {fs : List FD} (h : w.ownsRow B 36 5 (.slice a fs.length c) fs.length (flatV fs)) : FlagsRd w a fs := fun i hi => by
  rcases h.2 with ⟨h1, h0⟩ | ⟨g, cap, cur, h1, hb, hg, hn, hcap, hcs, htk⟩
  · omega
  · injection h1 with h2 _ _
    refine ⟨g, 0, h2, fun j f hj => ?_⟩
    have hcell : ∀ m v, f.val[m]? = some v → w.cell? ⟨g, 0 + j * 5 + m, none⟩ = some v := fun m v hv => by
      have hjl := (List.getElem?_eq_some_iff.1 hj).1
      have hm5 : m < 5 := by have := (Array.getElem?_eq_some_iff.1 hv).1; exact this
      have h3 := flat_at fs j f hj m v hv
      have h4 : (fs.flatMap fun f => f.val.toList) = cur.toList.take (fs.length * 5) := htk.symm
      rw [h4, List.getElem?_take_of_lt (by omega), Array.getElem?_toList] at h3
      rw [Nat.zero_add]
      exact (cell_of_row w g (j * 5 + m) cur _ (0, 0) hg).trans h3
    exact ⟨hcell 0 _ rfl, hcell 1 _ rfl, hcell 2 _ rfl, hcell 3 _ rfl, hcell 4 _ rfl⟩
end Go.Proofs.YtpcmiaablanmeaaGreatDoor
