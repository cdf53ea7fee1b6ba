/- Proved: laws.FnRewritten returns true at every input, and its arguments and flagparse.ErrHelp read behind the call as before; the card ties ErrHelp's content to the program's text. Conditions: none but those of the row itself (flagparse.ErrHelp holds what its initialiser lays, which the card ties; whatever the variables that the row does not list hold). -/
import Derived.Test.YtpcmiaablanmeaaGreatDoorLRw
import Derived.Test.YtpcmiaablanmeaaGreatDoorOpenT
import Derived.Test.YtpcmiaablanmeaaGreatDoorCards
import Derived.Test.YtpcmiaablanmeaaGreatDoorTie
import Derived.ProofKit
import Derived.Deep.Grids
import Derived.OpenShut
import Derived.ShutString
import Derived.ChangeOld
import Derived.ChangeVars
import Derived.OpenVars
import Derived.LaidMore
import Derived.Deep.DeepHandedRow
namespace Go.Proofs.YtpcmiaablanmeaaGreatDoor.RRow
open Go.ChangeShapes Go.WideShapes Go.ChangeAt Go.RowKit Go.Proofs.YtpcmiaablanmeaaGreatDoor
set_option linter.unusedVariables false

/-- A []bool that came in, as data. -/
theorem open_boolsIn {H : Type} {enc : TypeId × Value → H} {w : World} {base : Nat} {held : Bool} {A : Option Addr} {len cap : Nat} {d : DataW H} {p : List MemPlace}
    (h : DataW.Trod enc Tryz.prog w base (fun _ => true) held 46 (.slice A len cap) d p) :
    len ≤ cap ∧ cap ≤ 9223372036854775807 ∧ BoolsIn w w.heap.size A len := by
  obtain ⟨fuel, hf⟩ := h
  have hM : maxLen = 9223372036854775807 := rfl
  rcases Go.Deep.open_bools Tryz.underlying46 Tryz.underlying4 (by kernel_rfl) hf with ⟨hcs, _⟩ | ⟨a, l, c, B, hcs, _, hl, hm, _, hc⟩
  · simp [Value.cells] at hcs
    obtain ⟨rfl, rfl, rfl⟩ := hcs
    exact ⟨Nat.le_refl _, by omega, fun i h => absurd h (Nat.not_lt_zero i)⟩
  · simp [Value.cells] at hcs
    obtain ⟨rfl, rfl, rfl⟩ := hcs
    refine ⟨hl, by omega, fun i hi => ?_⟩
    have c0 := hc 0 (by omega)
    have ha0 : a.add 0 = a := by simp [Addr.add]
    rw [ha0] at c0
    have hsp := World.cell?_spot c0
    have hbl := block_lt c0
    obtain ⟨b, off, sp⟩ := a
    simp only at hsp
    subst hsp
    have ci := hc i (by omega)
    rw [add_plain] at ci
    exact ⟨b, off, rfl, hbl, B i, ci⟩

theorem own : ownKnob Tryz.prog.godebug = none := by kernel_rfl
theorem laidOut : laidOutB Tryz.prog = true := by kernel_rfl
theorem params : Tryz.f6.params = #[22, 26, 46, 46] := by kernel_rfl
theorem rowed : varsRowed Tryz.prog Rows.fnRewrittenSpec.vars = true := by kernel_rfl

theorem door_met (os : Os) (args : Array Value) : laidMetH Tryz.prog Rows.fnRewrittenRow.laid ((World.doorLaid Tryz.prog 119 os).forCall (fun _ _ => 0) ⟨#[], args, []⟩).memory :=
  laidMetH_of_parts3 (fuel := 8) (laidMet_of_run' 8 (by kernel_rfl) (by kernel_rfl)) (by kernel_rfl) (by kernel_rfl)

set_option maxRecDepth 100000 in
theorem lifted (os : Os) (started : os.Started) (H : Type) (enc : TypeId × Value → H) (F : Stop.Interp) :
    ReturnsInHanded {} Tryz.checked os 6 .any ((OpenSpec.ofChange Rows.fnRewrittenSpec).preRow enc Tryz.prog Tryz.f6 Rows.fnRewrittenRow.domain false Rows.fnRewrittenRow.laid) (((OpenSpec.ofChange Rows.fnRewrittenSpec).at F).post enc Tryz.prog Tryz.f6 false true false false) := by
  refine returnsInHanded_of_row (C := Tryz.checked) (s := OpenSpec.ofChange Rows.fnRewrittenSpec) own started (by kernel_rfl) Tryz.func6
    (ChangeSpec.witness_shaped (enc := enc) (C := Tryz.checked) (os := os) (X := fun w _ => laidMetH Tryz.prog Rows.fnRewrittenRow.laid w) false (World.doorLaid Tryz.prog 119 os) #[.slice none 0 0, .slice none 0 0, .slice none 0 0, .slice none 0 0] 8 rfl (World.shaped_of_RefB (by kernel_rfl) (by kernel_rfl)) (by kernel_rfl) (by kernel_rfl) (by kernel_rfl) (door_met os _)) ?_
  intro W base args ds gs before hval0 hW _ _ _ hL hsh _
  have hval : ∀ (j : Nat) t v, Tryz.f6.params[j]? = some t → args[j]? = some v → Value.okWide Tryz.prog W .any base t v := hval0
  have hW' := hW
  obtain ⟨p, q, hA0, hV, rfl, hfz, hnd⟩ := hW
  have hA : DataW.TrodAll enc Tryz.prog W 0 (fun _ => true) true Tryz.f6.params.toList args.toList ds p := hA0
  rw [params] at hA hval
  obtain ⟨v0, vs0, d0, ds0, p0, q0, hargs, rfl, rfl, h0, r0⟩ := trodAll_cons hA
  obtain ⟨v1, vs1, d1, ds1, p1, q1, rfl, rfl, rfl, h1, r1⟩ := trodAll_cons r0
  obtain ⟨v2, vs2, d2, ds2, p2, q2, rfl, rfl, rfl, h2, r2⟩ := trodAll_cons r1
  obtain ⟨v3, vs3, d3, ds3, p3, q3, rfl, rfl, rfl, h3, r3⟩ := trodAll_cons r2
  obtain ⟨rfl, rfl, rfl⟩ := trodAll_nil r3
  obtain rfl : args = #[v0, v1, v2, v3] := by cases args; simp_all
  obtain ⟨a0, len0, cap0, rfl⟩ := okWide_slice flag_slice (hval 0 22 v0 rfl rfl)
  obtain ⟨a1, len1, cap1, rfl⟩ := okWide_slice Tryz.underlying26 (hval 1 26 v1 rfl rfl)
  obtain ⟨a2, len2, cap2, rfl⟩ := okWide_slice Tryz.underlying46 (hval 2 46 v2 rfl rfl)
  obtain ⟨a3, len3, cap3, rfl⟩ := okWide_slice Tryz.underlying46 (hval 3 46 v3 rfl rfl)
  have k0 := h0
  have k1 := h1
  have k2 := h2
  have k3 := h3
  have lt3 : ∀ x ∈ p3, x.block < W.heap.size := by obtain ⟨m, hm⟩ := k3; exact DataW.trod_lt m _ _ _ hm
  have lt2 : ∀ x ∈ p2, x.block < W.heap.size := by obtain ⟨m, hm⟩ := k2; exact DataW.trod_lt m _ _ _ hm
  have lt0 : ∀ x ∈ p0, x.block < W.heap.size := by obtain ⟨m, hm⟩ := k0; exact DataW.trod_lt m _ _ _ hm
  have lt1 : ∀ x ∈ p1, x.block < W.heap.size := by obtain ⟨m, hm⟩ := k1; exact DataW.trod_lt m _ _ _ hm
  obtain ⟨fs, rfl, hlc, hcm, hin, hok⟩ := open_flags k0
  have hn0 := open_nil k0
  obtain ⟨ts, rfl, hxc, hxm, hx, hn1, hz⟩ := open_texts k1
  obtain ⟨htc, htm, hbt⟩ := open_boolsIn k2
  obtain ⟨hsc, hsm, hbs⟩ := open_boolsIn k3
  obtain ⟨g, gt, gcs, gf, gd, gp, rfl, hg1, hg2, hg3, hg4, rfl⟩ := trodVars_one hV
  clear hA0 hval0
  refine (law_rewritten a0 cap0 fs a1 cap1 ts a2 len2 cap2 a3 len3 cap3 W (by omega) hlc hin hn0 hok (tab_ok hsh) (by omega) hxc hx hn1 hbt hbs (by omega) (by omega)).mono fun e W' ⟨he, bel⟩ => ?_
  subst he
  exact ⟨_, rfl, _, _, _, [], _, _, hW', trodAll_mk1 (shut_bool (by kernel_rfl) _), (trodAll_cons_mk (Below.trod laidOut (by kernel_rfl) (of_decide_eq_true (by kernel_rfl)) k0 bel lt0) (trodAll_cons_mk (Below.trod laidOut (by kernel_rfl) (of_decide_eq_true (by kernel_rfl)) k1 bel lt1) (trodAll_cons_mk (Below.trod laidOut (by kernel_rfl) (of_decide_eq_true (by kernel_rfl)) k2 bel lt2) (trodAll_cons_mk (Below.trod laidOut (by kernel_rfl) (of_decide_eq_true (by kernel_rfl)) k3 bel lt3) trodAll_mk0)))), Below.trodVars laidOut bel rowed hV, bel.frame _, fun h => by cases h⟩

theorem said : Rows.FnRewrittenSaid :=
  OpenClaim.holds_of_cond 6 Tryz.f6 rfl rfl rfl rfl rfl rfl rfl ⟨rfl, rfl, rfl, rfl, rfl⟩ rfl rfl rfl rfl rfl (by kernel_rfl) Tryz.func6 (by kernel_rfl)
    (of_decide_eq_true (by kernel_rfl)) (by unfold Func.isWrapper; first | (rw [if_pos (by decide +kernel)]; kernel_rfl) | (rw [if_neg (by decide +kernel)]; exact ⟨rfl, rfl⟩))
    (fun os started H enc _ F => by rw [OpenClaim.pre_eq_preRow]; exact lifted os started H enc F)

/-- No parameter wants a stand-in; the program's own looks are on: what the card asks. -/
theorem plain (f : FuncId) (fn : Func) (hf : Tryz.pinned.checked.prog.funcNamed "loop.example/pub-flagwords/laws.FnRewritten" = some f) (hfn : Tryz.pinned.checked.prog.funcs[f]? = some fn) :
    true = Tryz.pinned.checked.prog.looks [] ∧ ∀ (j : Nat) t, fn.params[j]? = some t → Tryz.pinned.checked.prog.wantsStandIn t = false := by
  obtain rfl : f = 6 := Option.some.inj ((show Tryz.prog.funcNamed "loop.example/pub-flagwords/laws.FnRewritten" = some 6 by kernel_rfl).symm.trans hf) |>.symm
  obtain rfl : fn = Tryz.f6 := (Option.some.inj (Tryz.func6.symm.trans hfn)).symm
  refine ⟨by kernel_rfl, fun j t ht => ?_⟩
  rw [params] at ht
  have hm : t ∈ [22, 26, 46, 46] := by simpa using Array.mem_of_getElem? ht
  have hall : ([22, 26, 46, 46].all fun u => !Tryz.prog.wantsStandIn u) = true := by kernel_rfl
  exact (show Tryz.prog.wantsStandIn t = false by simpa using List.all_eq_true.1 hall t hm)

/-- The statement: the tied card. -/
theorem proved : Rows.FnRewrittenCardSaid :=
  Claim7.holds_tied_plain_at .later [] _ _ _ _ said (fun _ h => by cases h) (by kernel_rfl) (fun _ h => by cases h) fnRewritten_row_tie rfl ⟨rfl, rfl⟩ (by kernel_rfl) rfl plain (by kernel_rfl)
#print axioms proved
end Go.Proofs.YtpcmiaablanmeaaGreatDoor.RRow
