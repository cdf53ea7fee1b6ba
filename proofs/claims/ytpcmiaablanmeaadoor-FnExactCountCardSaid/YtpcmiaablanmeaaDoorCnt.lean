/- NFlag, NArg, Arg behind Parse; impl.Count: contracts. -/
import Derived.Test.YtpcmiaablanmeaaDoorPAll
import Derived.Test.YtpcmiaablanmeaaDoorDef
import Derived.Deep.RegionLaw
import Derived.Deep.RegionWith
import Derived.Deep.QuietTactic
import Derived.BigQuiet
import Derived.Deep.AppendLies
import Derived.Laws.OwnMore
import Derived.Deep.RegionHeld3
import Derived.Laws.Pointers
import Derived.OwnWalk
import Derived.StillTactics
namespace Go.Proofs.YtpcmiaablanmeaaDoor
open Go.RowKit Go.Maps

theorem ret_str {a b : ByteArray} (h : a = b) : Ending.returned (.string a) = .returned (.string b) := by rw [h]

section
variable {w : World} {B sb fb : Nat} {es0 es : List Ent} {u act mv sl vb vn vt : Value} {A : Option Addr} {L : List ByteArray} {c : Nat} {ak : List (ByteArray × Nat)} {ss : List ByteArray}

theorem PS.akl (h : PS w B sb fb es0 es u act mv sl vb vn vt A L c ak ss) : ak.length = ss.length := by
  have := h.seen.length_eq
  rwa [List.length_map] at this

theorem nflag_any (h : PS w B sb fb es0 es u act mv sl vb vn vt A L c ak ss) :
    Calls Tryd.prog 18 #[.pointer (some ⟨fb, 0, none⟩)] w fun e w' => e = .returned (.int .i64 ss.length) ∧ w = w' := by
  have f3 : w.cell? ⟨fb, 3, none⟩ = some act := h.set.fset.cell 3
  have hl := h.akl
  rcases h.actM with ⟨rfl, rfl⟩ | ⟨mb, rfl, hown⟩
  · have hr : ∀ ty, (Builtin.len_ #[66] ty #[.map none]).run Tryd.prog w = .ok (.int .i64 0) w := fun ty => Maps.len_nil Tryd.underlying66 ty
    have H0 := hide hl
    clear h hl
    go_enter Tryd.func18, Tryd.ntmps18
    go_wp2
    go_ret
    exact ⟨by rw [← H0.out]; rfl, rfl⟩
  · have hs := mapD_size (h.seen.nodup_iff.2 h.nodup)
    have hr : ∀ ty, (Builtin.len_ #[66] ty #[.map (some mb)]).run Tryd.prog w = .ok (.int .i64 (Maps.size (mapD ak))) w := fun ty => hown.len Tryd.underlying66 ty
    rw [hs, hl] at hr
    clear h hl hs hown
    go_enter Tryd.func18, Tryd.ntmps18
    go_wp2
    go_ret
    exact ⟨rfl, rfl⟩

theorem narg_any (h : PS w B sb fb es0 es u act mv sl vb vn vt A L c ak ss) :
    Calls Tryd.prog 19 #[.pointer (some ⟨fb, 0, none⟩)] w fun e w' => e = .returned (.int .i64 L.length) ∧ w = w' := by
  have f5 : w.cell? ⟨fb, 5, none⟩ = some (.slice A L.length c) := h.set.fset.cell 5
  clear h
  go_enter Tryd.func19, Tryd.ntmps19
  go_wp2
  go_ret
  exact ⟨rfl, rfl⟩

/-- The argument with a number, or nothing. -/
def argOf (L : List ByteArray) (i : Int) : ByteArray := if 0 ≤ i ∧ i < L.length then (L[i.toNat]?).getD ⟨#[]⟩ else ⟨#[]⟩

theorem arg_any (h : PS w B sb fb es0 es u act mv sl vb vn vt A L c ak ss) (i : Int) :
    Calls Tryd.prog 20 #[.pointer (some ⟨fb, 0, none⟩), .int .i64 i] w fun e w' => e = .returned (.string (argOf L i)) ∧ w = w' := by
  have f5 : w.cell? ⟨fb, 5, none⟩ = some (.slice A L.length c) := h.set.fset.cell 5
  by_cases h0 : i < 0
  · have hA := hide (show argOf L i = ⟨#[]⟩ from if_neg (by omega))
    have d0 : decide (i < 0) = true := decide_eq_true h0
    clear h
    go_enter Tryd.func20, Tryd.ntmps20
    go_wp2
    go_ret
    exact ⟨ret_str hA.out.symm, rfl⟩
  · have d0 : decide (i < 0) = false := decide_eq_false h0
    obtain ⟨k, rfl⟩ := Int.eq_ofNat_of_zero_le (show 0 ≤ i by omega)
    by_cases hk : k < L.length
    · have hA := hide (show argOf L (k : Int) = L[k] by
        unfold argOf
        rw [if_pos ⟨by omega, by omega⟩, Int.toNat_natCast, List.getElem?_eq_getElem hk]
        rfl)
      have d1 : decide (L.length ≤ k) = false := by simp; omega
      rcases h.args with h1 | ⟨ab, off, acs, rfl, _, hb, hc⟩
      · rw [h1] at hk; simp at hk
      · have c0 : w.cell? ⟨ab, off + k, none⟩ = some (.string L[k]) := by rw [hb.cell]; exact hc k _ (List.getElem?_eq_getElem hk)
        clear h hb hc
        go_enter Tryd.func20, Tryd.ntmps20
        go_wp2
        go_ret
        exact ⟨ret_str hA.out.symm, rfl⟩
    · have hA := hide (show argOf L (k : Int) = ⟨#[]⟩ from if_neg (by omega))
      have d1 : decide (L.length ≤ k) = true := by simp; omega
      clear h
      go_enter Tryd.func20, Tryd.ntmps20
      go_wp2
      go_ret
      exact ⟨ret_str hA.out.symm, rfl⟩
end

theorem Tryd.infoText : (Tryd.prog.info? 9).map (fun i => (i.zero, i.size, i.bytes)) = some (some (.string ⟨#[]⟩), 1, 16) := by kernel_rfl

theorem addr_plus_ (b off k : Nat) : (⟨b, off, none⟩ : Addr).add k = ⟨b, off + k, none⟩ := by
  unfold Addr.add
  split <;> simp_all
theorem addr_block_ (a : Addr) (k : Nat) : (a.add k).block = a.block := by
  unfold Addr.add
  split <;> rfl

/-- 'append' of nothing, as a step of a region. -/
theorem step_append_none {P : Program} {w : World} {ops : Array Oper} {o : Oper} {a : Act} {K : Act → World → Prop} {Q : Exit → Act → World → Prop} {E : Prop} (hgd : o.guard = none) (s x : Operand) (t : TypeId)
    (ho : o.op = .call { callee := .builtin .append, args := #[s, x], argTypes := #[t, t] }) (base : Nat) (e : TypeId) (i : TypeInfo) (size : Nat) (ht : P.underlying t = some (.slice e)) (hi : P.info? e = some i)
    (v : Value) (n : Nat) (xs : List Value) (hs : a.eval s = v) (hown : w.ownsRow base e size v n xs) (hx : a.eval x = .slice none 0 0) (h : K (a.put o.dst v) w) :
    if Region.wanted o (yielded ops a.tmps) = true then Oper.wp P o a w K Q else E := by
  have hw : Region.wanted o (yielded ops a.tmps) = true := by simp [Region.wanted, hgd]
  rw [if_pos hw]
  have hrun := run_append_owned_none (P := P) (w := w) base t o.type e i size ht hi v n xs hown
  unfold Oper.wp
  simp [execOp, ho, resolve, invoke, builtin, hs, hx, hrun, Result.andThen]
  exact h

/-- The arguments as the call copied them. -/
theorem own_args {w w3 : World} {B gg cap : Nat} {es : List Ent} {args : List ByteArray} (hown : w3.ownsRow w.heap.size 9 1 (.slice (some ⟨gg, 0, none⟩) args.length cap) args.length (args.map Value.string)) (hB : B ≤ w.heap.size) (hv : ∀ e ∈ es, e.v < w.heap.size) :
    ArgsAt w3 (fun b => B ≤ b ∧ ∀ e ∈ es, b ≠ e.v) (some ⟨gg, 0, none⟩) args ∧ args.length ≤ cap := by
  rcases hown.2 with ⟨h0, h⟩ | ⟨g, c, cur, h, hb, hg, hn, hcap, hcs, htk⟩
  · injection h0 with h1
    cases h1
  · injection h with h1 h2 h3
    injection h1 with h1
    injection h1 with h1
    subst h1 h3
    refine ⟨.inr ⟨gg, 0, cur, rfl, ⟨by omega, fun e he h => by have := hv e he; omega⟩, hg, fun j s hj => ?_⟩, hn⟩
    have hl := (List.getElem?_eq_some_iff.1 hj).1
    have h1 := congrArg (fun l => l[j]?) htk
    simp only [Nat.mul_one] at h1
    rw [List.getElem?_take_of_lt hl, List.getElem?_map, hj, Array.getElem?_toList] at h1
    rw [Nat.zero_add]
    exact h1

theorem news_far {w1 : World} {ax : Addr} {news : List Value} (h : ∀ j u, news[j]? = some u → w1.cell? (ax.add j) = some u) (hb : ax.block < w1.heap.size) (o : Obj) : ∀ j u, news[j]? = some u → ((w1.alloc o).drew).cell? (ax.add j) = some u := fun j u hj => by
  have := Off.cell_ (((Off.refl (fun _ => False) w1).alloc o).drew) (p := ax.add j) (by rw [addr_block_]; exact hb) (fun h => h)
  rw [this]
  exact h j u hj

theorem off_append {w1 w3 : World} {o : Obj} {n c : Nat} (hg : ((w1.alloc o).drew).grownBy w3 (Value.slice (some ⟨w1.heap.size, 0, none⟩) n c).ownBlock) : Off (fun _ => False) w1 w3 :=
  (((Off.refl (fun _ => False) w1).alloc o).drew).trans (off_of_grown (S := fun j => j = w1.heap.size) hg (fun j _ h => by
    have : w1.heap.size = j := by simpa [Value.ownBlock] using h
    omega)) (fun j hj h => by omega)

theorem quiet_eq {P : Program} {f : FuncId} {args : Array Value} {w : World} {n : Nat} {v : Value} (h : Calls P f args (w.drewN n) fun e w' => e = .returned v ∧ w.drewN n = w') : Calls P f args (w.drewN n) fun e w'' => e = .returned v ∧ ∃ m, w'' = w.drewN m :=
  h.mono fun _ _ ⟨he, hm⟩ => ⟨he, n, hm.symm⟩

theorem count_below {B : Nat} {w w1 w3 w4 : World} (h1 : Below B w w1) (h3 : Off (fun _ => False) w1 w3) (h4 : Off (fun j => B ≤ j) w3 w4) (hB : B ≤ w.heap.size) (n : Nat) : Below B w (w4.drewN n) :=
  ((((Below.off' h1).trans h3 (fun _ _ h => h.elim)).trans h4 (fun _ _ h => h)).drewN n).below (fun _ _ h => h) hB

/-- What impl.Count leaves: three numbers of what is read. -/
def CountPost (ss rest : List ByteArray) (i : Int) (w : World) (e : Ending) (w' : World) : Prop := e = .returned (.tuple #[.int .i64 ss.length, .int .i64 rest.length, .string (argOf rest i)]) ∧ Below w.heap.size w w'

set_option maxHeartbeats 1000000 in
set_option maxRecDepth 100000 in
theorem count_some (A : Option Addr) (c : Nat) (fs : List FD) (ax : Addr) (cx : Nat) (args : List ByteArray) (i : Int) (w : World) (hin : FlagsIn w w.heap.size A fs) (hok : ∀ f ∈ fs, f.Ok) (hD : DefinedP fs) (ht : TabOk w) (hx : TextsIn w w.heap.size (some ax) args) (hxs : ∀ s ∈ args, s.size ≤ 16777216) (hxl : args.length ≤ 100000) (hpos : 0 < args.length)
    {cur' : List FD} {ss' rest : List ByteArray} {ended : Bool} (hR : Reads fs fs args [] cur' ss' rest ended) :
    Calls Tryd.prog 9 #[.slice A fs.length c, .slice (some ax) args.length cx, .int .i64 i] w (CountPost ss' rest i w) := by
  have HDef := hide (define_any A c fs w hin hok hD ht)
  have Hx := hide hx
  have HD := hide hD
  have HR := hide hR
  clear hin hok hD ht hx hR
  go_enter Tryd.func9, Tryd.ntmps9
  go_wp2_with (first | (go_at_call 16; refine HDef.out.mono ?_; rintro e w1 ⟨sb, fb, es, mv, vb, vn, vt, rfl, hes, hS, hb⟩) | fail)
  have s0 : w1.cell? ⟨sb, 0, none⟩ = some (.pointer (some ⟨fb, 0, none⟩)) := hS.set.cell 0
  have hsl := hS.set.lt
  have HS := hide hS
  have Hes := hide hes
  have Hb := hide hb
  have hbz := hb.size
  clear hS hes hb HDef
  obtain ⟨i0, hi0, hz00, hz01, hz02⟩ := info_parts Tryd.infoText
  have hxn : ∀ j u, (args.map Value.string)[j]? = some u → w1.cell? (ax.add j) = some u := fun j u hj => by
    rw [List.getElem?_map] at hj
    obtain ⟨s, hs, rfl⟩ := Option.map_eq_some_iff.1 hj
    obtain ⟨b, off, hA, hlt, hc⟩ := Hx.out 0 hpos
    cases hA
    rw [Hb.out.cell (by rw [addr_block_]; exact hlt)]
    rw [addr_plus_]
    exact hc j s hs
  have hxb : ax.block < w1.heap.size := by
    obtain ⟨b, off, hA, hlt, hc⟩ := Hx.out 0 hpos
    cases hA
    show b < _
    omega
  have hown0 : (w1.alloc (.cells #[] 9)).ownsRow w1.heap.size 9 1 (.slice (some ⟨w1.heap.size, 0, none⟩) 0 0) 0 [] := ⟨rfl, .inr ⟨w1.heap.size, 0, #[], rfl, Nat.le_refl _, heap_alloc_new w1 _, Nat.le_refl _, Nat.zero_le _, rfl, rfl⟩⟩
  have Hxn := hide hxn
  have Hown0 := hide hown0
  clear hxn hown0
  go_region_held3 (fun w' => w'.cell? ⟨sb, 0, none⟩ = some (.pointer (some ⟨fb, 0, none⟩)))
    (first | exact s4 | exact s3 | go_keep)
    (first
      | ((refine step_append_lies _ (by rfl) _ _ _ (by rfl) w1.heap.size 9 i0 _ 1 16 Tryd.underlying23 hi0 hz00 hz01 hz02 rfl (by omega) (.slice (some ⟨w1.heap.size, 0, none⟩) 0 0) 0 [] (by rfl) (Hown0.out.drew) ax args.length cx (args.map Value.string) (by rfl) (by simp) (news_far Hxn.out hxb _) (by simp [Value.oneCell']) hpos (by unfold maxLen; omega) (by omega) (by simp) (w1.heap.size + 1) (by simp) ?_; intro gg cap w3 hown3 hgrow hat hlt3; rw [Nat.zero_add, List.nil_append] at hown3; have hO3 := hide (off_append hgrow); have HS3 := hide (HS.out.keep hO3.out); have s3 : w3.cell? ⟨sb, 0, none⟩ = some (.pointer (some ⟨fb, 0, none⟩)) := HS3.out.set.cell 0; have hargs := own_args hown3 hbz (fun e he => (HS.out.vars e he).lt); have HPz := hide (parse_any HS3.out hargs.1 hargs.2 Hes.out HD.out (Nat.le_trans hbz hO3.out.size) hxs HR.out); clear hown3 hgrow hat hargs; rw [Nat.zero_add]))
      | (go_at_call 17; refine HPz.out.mono ?_; rintro e w4 ⟨es4, act4, A4, c4, ak4, rfl, hps, hcur, hoff⟩; have Hps := hide hps; have Hoff := hide hoff; have s4 : w4.cell? ⟨sb, 0, none⟩ = some (.pointer (some ⟨fb, 0, none⟩)) := hps.set.set.cell 0; clear hps hcur hoff))
  clear s0 Hown0
  go_upto_region 3 with fail
  go_quiet ((first
    | (go_at_call 18; exact quiet_eq (nflag_any (Hps.out.keep ((Off.refl (fun _ => False) w4).drewN _))))
    | (go_at_call 19; exact quiet_eq (narg_any (Hps.out.keep ((Off.refl (fun _ => False) w4).drewN _))))
    | (go_at_call 20; exact quiet_eq (arg_any (Hps.out.keep ((Off.refl (fun _ => False) w4).drewN _)) i))))
  go_wp2_with fail
  go_ret3
  exact ⟨rfl, count_below Hb.out hO3.out Hoff.out (Nat.le_refl _) nq⟩

set_option maxHeartbeats 1000000 in
set_option maxRecDepth 100000 in
theorem count_empty (A : Option Addr) (c : Nat) (fs : List FD) (ax : Addr) (cx : Nat) (i : Int) (w : World) (hin : FlagsIn w w.heap.size A fs) (hok : ∀ f ∈ fs, f.Ok) (hD : DefinedP fs) (ht : TabOk w)
    {cur' : List FD} {ss' rest : List ByteArray} {ended : Bool} (hR : Reads fs fs [] [] cur' ss' rest ended) :
    Calls Tryd.prog 9 #[.slice A fs.length c, .slice (some ax) 0 cx, .int .i64 i] w (CountPost ss' rest i w) := by
  have HDef := hide (define_any A c fs w hin hok hD ht)
  have HD := hide hD
  have HR := hide hR
  clear hin hok hD ht hR
  go_enter Tryd.func9, Tryd.ntmps9
  go_wp2_with (first | (go_at_call 16; refine HDef.out.mono ?_; rintro e w1 ⟨sb, fb, es, mv, vb, vn, vt, rfl, hes, hS, hb⟩) | fail)
  have s0 : w1.cell? ⟨sb, 0, none⟩ = some (.pointer (some ⟨fb, 0, none⟩)) := hS.set.cell 0
  have hsl := hS.set.lt
  have HS := hide hS
  have Hes := hide hes
  have Hb := hide hb
  have hbz := hb.size
  clear hS hes hb HDef
  obtain ⟨i0, hi0, hz00, hz01, hz02⟩ := info_parts Tryd.infoText
  have hown0 : (w1.alloc (.cells #[] 9)).ownsRow w1.heap.size 9 1 (.slice (some ⟨w1.heap.size, 0, none⟩) 0 0) 0 [] := ⟨rfl, .inr ⟨w1.heap.size, 0, #[], rfl, Nat.le_refl _, heap_alloc_new w1 _, Nat.le_refl _, Nat.zero_le _, rfl, rfl⟩⟩
  have Hown0 := hide hown0
  have hO3 := hide (((Off.refl (fun _ => False) w1).alloc (.cells #[] 9)).drew)
  have HS3 := hide (HS.out.keep hO3.out)
  have HPz := hide (parse_any (A := some ⟨w1.heap.size, 0, none⟩) (L := []) (c := 0) HS3.out (.inl rfl) (Nat.le_refl _) Hes.out HD.out (Nat.le_trans hbz hO3.out.size) (fun s hs => by cases hs) HR.out)
  have s3 : ((w1.alloc (.cells #[] 9)).drew).cell? ⟨sb, 0, none⟩ = some (.pointer (some ⟨fb, 0, none⟩)) := HS3.out.set.cell 0
  clear hown0
  go_region_held3 (fun w' => w'.cell? ⟨sb, 0, none⟩ = some (.pointer (some ⟨fb, 0, none⟩)))
    (first | exact s4 | exact s3 | go_keep)
    (first
      | ((refine step_append_room (by rfl) _ _ _ (by rfl) 9 i0 1 Tryd.underlying23 hi0 hz01 w1.heap.size 0 0 0 (by rfl) ax 0 cx [] (by rfl) rfl (fun j u hj => by cases hj) (fun u hu => by cases hu) (Nat.le_refl _) (fun j hj => absurd hj (Nat.not_lt_zero j)) ?_))
      | (go_at_call 17; refine HPz.out.mono ?_; rintro e w4 ⟨es4, act4, A4, c4, ak4, rfl, hps, hcur, hoff⟩; have Hps := hide hps; have Hoff := hide hoff; have s4 : w4.cell? ⟨sb, 0, none⟩ = some (.pointer (some ⟨fb, 0, none⟩)) := hps.set.set.cell 0; clear hps hcur hoff))
  clear s0 Hown0
  go_upto_region 3 with fail
  go_quiet ((first
    | (go_at_call 18; exact quiet_eq (nflag_any (Hps.out.keep ((Off.refl (fun _ => False) w4).drewN _))))
    | (go_at_call 19; exact quiet_eq (narg_any (Hps.out.keep ((Off.refl (fun _ => False) w4).drewN _))))
    | (go_at_call 20; exact quiet_eq (arg_any (Hps.out.keep ((Off.refl (fun _ => False) w4).drewN _)) i))))
  go_wp2_with fail
  go_ret3
  exact ⟨rfl, count_below Hb.out hO3.out Hoff.out (Nat.le_refl _) nq⟩

set_option maxHeartbeats 1000000 in
set_option maxRecDepth 100000 in
theorem count_nil (A : Option Addr) (c : Nat) (fs : List FD)  (i : Int) (w : World) (hin : FlagsIn w w.heap.size A fs) (hok : ∀ f ∈ fs, f.Ok) (hD : DefinedP fs) (ht : TabOk w)
    {cur' : List FD} {ss' rest : List ByteArray} {ended : Bool} (hR : Reads fs fs [] [] cur' ss' rest ended) :
    Calls Tryd.prog 9 #[.slice A fs.length c, .slice none 0 0, .int .i64 i] w (CountPost ss' rest i w) := by
  have HDef := hide (define_any A c fs w hin hok hD ht)
  have HD := hide hD
  have HR := hide hR
  clear hin hok hD ht hR
  go_enter Tryd.func9, Tryd.ntmps9
  go_wp2_with (first | (go_at_call 16; refine HDef.out.mono ?_; rintro e w1 ⟨sb, fb, es, mv, vb, vn, vt, rfl, hes, hS, hb⟩) | fail)
  have s0 : w1.cell? ⟨sb, 0, none⟩ = some (.pointer (some ⟨fb, 0, none⟩)) := hS.set.cell 0
  have hsl := hS.set.lt
  have HS := hide hS
  have Hes := hide hes
  have Hb := hide hb
  have hbz := hb.size
  clear hS hes hb HDef
  obtain ⟨i0, hi0, hz00, hz01, hz02⟩ := info_parts Tryd.infoText
  have hown0 : (w1.alloc (.cells #[] 9)).ownsRow w1.heap.size 9 1 (.slice (some ⟨w1.heap.size, 0, none⟩) 0 0) 0 [] := ⟨rfl, .inr ⟨w1.heap.size, 0, #[], rfl, Nat.le_refl _, heap_alloc_new w1 _, Nat.le_refl _, Nat.zero_le _, rfl, rfl⟩⟩
  have Hown0 := hide hown0
  have hO3 := hide (((Off.refl (fun _ => False) w1).alloc (.cells #[] 9)).drew)
  have HS3 := hide (HS.out.keep hO3.out)
  have HPz := hide (parse_any (A := some ⟨w1.heap.size, 0, none⟩) (L := []) (c := 0) HS3.out (.inl rfl) (Nat.le_refl _) Hes.out HD.out (Nat.le_trans hbz hO3.out.size) (fun s hs => by cases hs) HR.out)
  have s3 : ((w1.alloc (.cells #[] 9)).drew).cell? ⟨sb, 0, none⟩ = some (.pointer (some ⟨fb, 0, none⟩)) := HS3.out.set.cell 0
  clear hown0
  go_region_held3 (fun w' => w'.cell? ⟨sb, 0, none⟩ = some (.pointer (some ⟨fb, 0, none⟩)))
    (first | exact s4 | exact s3 | go_keep)
    (first
      | ((refine step_append_none (by rfl) _ _ _ (by rfl) w1.heap.size 9 i0 1 Tryd.underlying23 hi0 (.slice (some ⟨w1.heap.size, 0, none⟩) 0 0) 0 [] (by rfl) Hown0.out.drew (by rfl) ?_))
      | (go_at_call 17; refine HPz.out.mono ?_; rintro e w4 ⟨es4, act4, A4, c4, ak4, rfl, hps, hcur, hoff⟩; have Hps := hide hps; have Hoff := hide hoff; have s4 : w4.cell? ⟨sb, 0, none⟩ = some (.pointer (some ⟨fb, 0, none⟩)) := hps.set.set.cell 0; clear hps hcur hoff))
  clear s0 Hown0
  go_upto_region 3 with fail
  go_quiet ((first
    | (go_at_call 18; exact quiet_eq (nflag_any (Hps.out.keep ((Off.refl (fun _ => False) w4).drewN _))))
    | (go_at_call 19; exact quiet_eq (narg_any (Hps.out.keep ((Off.refl (fun _ => False) w4).drewN _))))
    | (go_at_call 20; exact quiet_eq (arg_any (Hps.out.keep ((Off.refl (fun _ => False) w4).drewN _)) i))))
  go_wp2_with fail
  go_ret3
  exact ⟨rfl, count_below Hb.out hO3.out Hoff.out (Nat.le_refl _) nq⟩

/-- impl.Count of arguments that are read. -/
theorem count_any (A : Option Addr) (c : Nat) (fs : List FD) (Ax : Option Addr) (cx : Nat) (args : List ByteArray) (i : Int) (w : World) (hin : FlagsIn w w.heap.size A fs) (hok : ∀ f ∈ fs, f.Ok) (hD : DefinedP fs) (ht : TabOk w) (hx : TextsIn w w.heap.size Ax args) (hnil : Ax = none → cx = 0) (hxs : ∀ s ∈ args, s.size ≤ 16777216) (hxl : args.length ≤ 100000)
    {cur' : List FD} {ss' rest : List ByteArray} {ended : Bool} (hR : Reads fs fs args [] cur' ss' rest ended) :
    Calls Tryd.prog 9 #[.slice A fs.length c, .slice Ax args.length cx, .int .i64 i] w (CountPost ss' rest i w) := by
  rcases args with _ | ⟨s, r⟩
  · rcases Ax with _ | ax
    · rw [hnil rfl]
      exact count_nil A c fs i w hin hok hD ht hR
    · exact count_empty A c fs ax cx i w hin hok hD ht hR
  · obtain ⟨b, off, rfl, _⟩ := hx 0 (by simp)
    exact count_some A c fs _ cx (s :: r) i w hin hok hD ht hx hxs hxl (by simp) hR
end Go.Proofs.YtpcmiaablanmeaaDoor
