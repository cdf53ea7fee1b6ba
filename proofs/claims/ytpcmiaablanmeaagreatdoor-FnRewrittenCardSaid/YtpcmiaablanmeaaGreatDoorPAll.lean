/- FlagSet.Parse on arguments that are read: a contract. -/
import Derived.Test.YtpcmiaablanmeaaGreatDoorPWalk
import Derived.Test.YtpcmiaablanmeaaGreatDoorPEnd
namespace Go.Proofs.YtpcmiaablanmeaaGreatDoor
open Go.RowKit Go.Maps

/-- The flags now are those that were defined, but for their values. -/
def Alike (fs cur : List FD) : Prop := cur.length = fs.length ∧ ∀ (i : Nat) (f g : FD), fs[i]? = some f → cur[i]? = some g → g.name = f.name ∧ g.kind = f.kind

theorem Alike.refl (fs : List FD) : Alike fs fs := ⟨rfl, fun i f g h1 h2 => by rw [h1] at h2; cases h2; exact ⟨rfl, rfl⟩⟩
theorem Alike.set {fs cur : List FD} (h : Alike fs cur) {i : Nat} {f f' : FD} (hf : cur[i]? = some f) (hn : f'.name = f.name ∧ f'.kind = f.kind) : Alike fs (cur.set i f') := by
  refine ⟨by rw [List.length_set]; exact h.1, fun j a b ha hb => ?_⟩
  by_cases e : i = j
  · subst e
    rw [List.getElem?_set_self (List.getElem?_eq_some_iff.1 hf).1] at hb
    cases hb
    have := h.2 i a f ha hf
    exact ⟨hn.1.trans this.1, hn.2.trans this.2⟩
  · rw [List.getElem?_set_ne e] at hb
    exact h.2 j a b ha hb
theorem Alike.at {fs cur : List FD} (h : Alike fs cur) {i : Nat} {g : FD} (hg : cur[i]? = some g) : ∃ f, fs[i]? = some f ∧ f.name = g.name ∧ f.kind = g.kind := by
  have hi := (List.getElem?_eq_some_iff.1 hg).1
  rw [h.1] at hi
  have := h.2 i _ g (List.getElem?_eq_getElem hi) hg
  exact ⟨fs[i], List.getElem?_eq_getElem hi, this.1.symm, this.2.symm⟩

theorem means_size {fs : List FD} {b : ByteArray} {rest : List ByteArray} {i : Nat} {v : ByteArray} {rest' : List ByteArray} (h : Means fs b rest i v rest') (hb : b.size ≤ 16777216) (hr : ∀ s ∈ rest, s.size ≤ 16777216) : v.size ≤ 16777216 ∧ ∀ s ∈ rest', s.size ≤ 16777216 := by
  rcases h with ⟨k, _, _, rfl, rfl⟩ | ⟨_, _, _, rfl, rfl⟩ | ⟨_, _, _, rfl⟩
  · exact ⟨by rw [ByteArray.size_extract]; omega, hr⟩
  · exact ⟨by decide, hr⟩
  · exact ⟨hr _ (by simp), fun s hs => hr s (by simp [hs])⟩
theorem means_len {fs : List FD} {b : ByteArray} {rest : List ByteArray} {i : Nat} {v : ByteArray} {rest' : List ByteArray} (h : Means fs b rest i v rest') : rest'.length ≤ rest.length := by
  rcases h with ⟨k, _, _, _, rfl⟩ | ⟨_, _, _, _, rfl⟩ | ⟨_, _, _, rfl⟩
  · exact Nat.le_refl _
  · exact Nat.le_refl _
  · simp
theorem Body.size {s b : ByteArray} (h : Body s b) : b.size ≤ s.size := by
  obtain ⟨_, _, h, _⟩ := h
  rcases h with ⟨_, rfl⟩ | ⟨_, _, rfl⟩ <;> (rw [ByteArray.size_extract]; omega)

section
variable {fs : List FD} {w wr : World} {B sb fb : Nat} {es0 es : List Ent} {u act mv sl vb vn vt : Value} {A : Option Addr} {L : List ByteArray} {c : Nat} {ak : List (ByteArray × Nat)} {ss : List ByteArray} {cur' : List FD} {ss' rest : List ByteArray} {ended : Bool}

/-- The loop's relation. -/
structure PRel (fs : List FD) (B sb fb : Nat) (es0 : List Ent) (u mv sl vb vn vt : Value) (cur' : List FD) (ss' rest : List ByteArray) (ended : Bool) (w wr : World) (es : List Ent) (act : Value) (A : Option Addr) (L : List ByteArray) (c : Nat) (ak : List (ByteArray × Nat)) (ss : List ByteArray) : Prop where
  ps : PS wr B sb fb es0 es u act mv sl vb vn vt A L c ak ss
  reads : Reads fs (es.map (·.f)) L ss cur' ss' rest ended
  same : Alike fs (es.map (·.f))
  sizes : ∀ s ∈ L, s.size ≤ 16777216
  off : Off (fun j => B ≤ j) w wr

def ParsePost (B sb fb : Nat) (es0 : List Ent) (u mv sl vb vn vt : Value) (cur' : List FD) (ss' rest : List ByteArray) (w : World) (e : Ending) (w' : World) : Prop :=
  ∃ es act A c ak, e = .returned .nilIface ∧ PS w' B sb fb es0 es u act mv sl vb vn vt A rest c ak ss' ∧ es.map (·.f) = cur' ∧ Off (fun j => B ≤ j) w w'

def argsLen (fb : Nat) (wr : World) : Nat := match wr.cell? ⟨fb, 5, none⟩ with
  | some (.slice _ n _) => n
  | _ => 0
theorem PS.len (h : PS w B sb fb es0 es u act mv sl vb vn vt A L c ak ss) : argsLen fb w = L.length := by
  have : w.cell? ⟨fb, 5, none⟩ = some (.slice A L.length c) := h.set.fset.cell 5
  unfold argsLen
  rw [this]

theorem names_nodup (hn : es.map (·.f) = fs) (hD : DefinedP fs) : (es.map fun e => e.f.name).Nodup := by
  have e1 : es.map (fun e => e.f.name) = fs.map (·.name) := by rw [← hn, List.map_map]; rfl
  rw [e1]
  unfold List.Nodup
  rw [List.pairwise_iff_getElem]
  intro i j hi hj hij
  simp only [List.getElem_map]
  rw [List.length_map] at hi hj
  exact hD.apart j i fs[j] fs[i] hij (List.getElem?_eq_getElem hj) (List.getElem?_eq_getElem hi)

/-- Parse begins. -/
theorem PS.start (h : SetW w B sb fb es es es es u false (.map none) mv (.slice none 0 0) sl vb vn vt) (ha : ArgsAt w (fun b => B ≤ b ∧ ∀ e ∈ es, b ≠ e.v) A L) (hc : L.length ≤ c) (hn : es.map (·.f) = fs) (hD : DefinedP fs) (hB : B ≤ w.heap.size) :
    PS ((w.setCell ⟨fb, 2, none⟩ (.bool true)).setCell ⟨fb, 5, none⟩ (.slice A L.length c)) B sb fb es es u (.map none) mv sl vb vn vt A L c [] [] := by
  have ho := ((Off.refl (fun j => j = fb) w).setCell (p := ⟨fb, 2, none⟩) (fun _ => rfl) (.bool true)).setCell (p := ⟨fb, 5, none⟩) (fun _ => rfl) (.slice A L.length c)
  refine ⟨h.move ho (fun g t cs _ e => e) (fun i hi e => ?_) ((h.fset.set_ 2 (.bool true)).set_ 5 (.slice A L.length c)), .inl ⟨rfl, rfl⟩, fun i hi => hi.elim, (fun p hp => by cases hp), List.Perm.refl _, List.nodup_nil, ?_, hc, ?_, names_nodup hn hD, Nat.le_trans hB ho.size, rfl⟩
  · subst e
    exact h.map.noBlk h.fset hi
  · exact ha.off ho (fun g cs _ hg e => by subst e; exact hg.ne_ h.fset (by decide) rfl)
  · have := hD.len
    have h2 := congrArg List.length hn
    rw [List.length_map] at h2
    omega

set_option maxHeartbeats 1000000 in
set_option maxRecDepth 100000 in
theorem parse_any (h : SetW w B sb fb es0 es0 es0 es0 u false (.map none) mv (.slice none 0 0) sl vb vn vt) (ha : ArgsAt w (fun b => B ≤ b ∧ ∀ e ∈ es0, b ≠ e.v) A L) (hc : L.length ≤ c) (hn : es0.map (·.f) = fs) (hD : DefinedP fs) (hB : B ≤ w.heap.size) (hs : ∀ s ∈ L, s.size ≤ 16777216) (hR : Reads fs fs L [] cur' ss' rest ended) :
    Calls Tryz.prog 35 #[.pointer (some ⟨fb, 0, none⟩), .slice A L.length c] w (ParsePost B sb fb es0 u mv sl vb vn vt cur' ss' rest w) := by
  have hp := PS.start h ha hc hn hD hB
  have hrel : PRel fs B sb fb es0 u mv sl vb vn vt cur' ss' rest ended w ((w.setCell ⟨fb, 2, none⟩ (.bool true)).setCell ⟨fb, 5, none⟩ (.slice A L.length c)) es0 (.map none) A L c [] [] :=
    ⟨hp, by rw [hn]; exact hR, by rw [hn]; exact Alike.refl fs, hs, ((Off.refl (fun j => B ≤ j) w).setCell (p := ⟨fb, 2, none⟩) (fun _ => h.fsetB) (.bool true)).setCell (p := ⟨fb, 5, none⟩) (fun _ => h.fsetB) (.slice A L.length c)⟩
  have Hrel := hide hrel
  have c2 : w.cell? ⟨fb, 2, none⟩ = some (.bool false) := h.fset.cell 2
  have z2 := h.fset.frozen 2
  have c5 : w.cell? ⟨fb, 5, none⟩ = some (.slice none 0 0) := h.fset.cell 5
  have z5 := h.fset.frozen 5
  have hlt := h.fset.lt
  clear h ha hc hn hD hB hs hR hp hrel
  go_enter Tryz.func35, Tryz.ntmps35
  go_wp2_with fail
  go_loopw [5] (fun _ wr => ∃ es act A L c ak ss, PRel fs B sb fb es0 u mv sl vb vn vt cur' ss' rest ended w wr es act A L c ak ss) (fun _ wr => argsLen fb wr)
  case atStart => exact ⟨_, _, _, _, _, _, _, Hrel.out⟩
  case round =>
    obtain ⟨es, act, A', L', c', ak, ss, hR⟩ := hrel
    have HR := hide hR
    have hr := hR.reads
    clear hR Hrel c2 z2 c5 z5 hlt
    generalize hcu : es.map (·.f) = cu at hr
    have Hcu := hide hcu
    clear hcu
    cases hr with
    | stop _ _ _ hst =>
      have HO := hide (parseOne_stop HR.out.ps (fun s hs => by have := HR.out.sizes s hs; omega) hst)
      clear hst
      go_wp2_with (first | (go_at_call 52; refine HO.out.mono ?_; rintro e' w' ⟨rfl, rfl⟩) | fail)
      go_ret
      exact ⟨es, act, A', c', ak, rfl, HR.out.ps, Hcu.out, HR.out.off⟩
    | term _ s r _ hst =>
      have HO := hide (parseOne_term HR.out.ps hst)
      clear hst
      go_wp2_with (first | (go_at_call 52; refine HO.out.mono ?_; rintro e' w' ⟨rfl, A2, c2, hps, hof⟩; have Hps := hide hps; have Hof := hide hof; clear hps hof) | fail)
      go_ret
      exact ⟨es, act, _, _, ak, rfl, Hps.out, Hcu.out, HR.out.off.trans Hof.out (fun _ _ h => h)⟩
    | step _ s b r _ i v r2 f f' ss1 _ _ _ _ hb hm hf ht hst next =>
      have hcf : (es.map (·.f))[i]? = some f := by rw [Hcu.out]; exact hf
      rw [List.getElem?_map] at hcf
      obtain ⟨e, he, rfl⟩ := Option.map_eq_some_iff.1 hcf
      obtain ⟨f0, hf0, hfe⟩ := HR.out.same.at (by rw [Hcu.out]; exact hf)
      have hsz := means_size hm (Nat.le_trans hb.size (HR.out.sizes s (by simp))) (fun x hx => HR.out.sizes x (by simp [hx]))
      have HO := hide (parseOne_step wr B sb fb es0 es u act mv sl vb vn vt A' s r c' ak ss ss1 fs b i e v r2 f' f0 HR.out.ps (by have := HR.out.sizes s (by simp); omega) hsz.1 hb hm he hf0 hfe ht hst)
      have Hnext := hide next
      have hmap : (es.set i ⟨f', e.p, e.v, e.d⟩).map (·.f) = cu.set i f' := by
        rw [← Hcu.out, List.map_set]
      have Hmap := hide hmap
      have Hal := hide (HR.out.same.set (by rw [Hcu.out]; exact hf) (Takes.name ht))
      have Hsz := hide hsz.2
      have Hl := hide (means_len hm)
      clear hb hm hf ht hst next hcf he hf0 hfe hsz hmap
      go_wp2_with (first | (go_at_call 52; refine HO.out.mono ?_; rintro e' w' ⟨act2, A2, c2, ak2, rfl, hps, hof⟩; have Hps := hide hps; have Hof := hide hof; clear hps hof) | fail)
      go_roundw
      case rel => exact ⟨_, _, _, _, _, _, _, ⟨Hps.out, by rw [Hmap.out]; exact Hnext.out, by rw [Hmap.out]; have h := Hal.out; rw [Hcu.out] at h; exact h, Hsz.out, HR.out.off.trans Hof.out (fun _ _ h => h)⟩⟩
      case measure =>
        rw [Hps.out.len, HR.out.ps.len, List.length_cons]
        have := Hl.out
        omega
end
end Go.Proofs.YtpcmiaablanmeaaGreatDoor
