/- The copy of the arguments: laws for 'append([]string{}, args...)'. -/
import Derived.Test.YtpcmiaablanmeaaGreatDoorPAll
import Derived.Test.YtpcmiaablanmeaaGreatDoorDef
import Derived.Deep.RegionLaw
import Derived.Deep.RegionWith
import Derived.Deep.QuietTactic
import Derived.BigQuiet
import Derived.Deep.AppendLies
import Derived.Laws.OwnMore
import Derived.Deep.RegionHeld3
import Derived.Laws.Pointers
import Derived.OwnWalk
import Derived.StillTactics
namespace Go.Proofs.YtpcmiaablanmeaaGreatDoor
open Go.RowKit Go.Maps

theorem Tryz.infoText : (Tryz.prog.info? 9).map (fun i => (i.zero, i.size, i.bytes)) = some (some (.string ⟨#[]⟩), 1, 16) := by kernel_rfl

theorem addr_plus_ (b off k : Nat) : (⟨b, off, none⟩ : Addr).add k = ⟨b, off + k, none⟩ := by
  unfold Addr.add
  split <;> simp_all
theorem addr_block_ (a : Addr) (k : Nat) : (a.add k).block = a.block := by
  unfold Addr.add
  split <;> rfl

/-- 'append' of nothing, as a step of a region. -/
theorem step_append_none {P : Program} {w : World} {ops : Array Oper} {o : Oper} {a : Act} {K : Act → World → Prop} {Q : Exit → Act → World → Prop} {E : Prop} (hgd : o.guard = none) (s x : Operand) (t : TypeId)
    (ho : o.op = .call { callee := .builtin .append, args := #[s, x], argTypes := #[t, t] }) (base : Nat) (e : TypeId) (i : TypeInfo) (size : Nat) (ht : P.underlying t = some (.slice e)) (hi : P.info? e = some i)
    (v : Value) (n : Nat) (xs : List Value) (hs : a.eval s = v) (hown : w.ownsRow base e size v n xs) (hx : a.eval x = .slice none 0 0) (h : K (a.put o.dst v) w) :
    if Region.wanted o (yielded ops a.tmps) = true then Oper.wp P o a w K Q else E := by
  have hw : Region.wanted o (yielded ops a.tmps) = true := by simp [Region.wanted, hgd]
  rw [if_pos hw]
  have hrun := run_append_owned_none (P := P) (w := w) base t o.type e i size ht hi v n xs hown
  unfold Oper.wp
  simp [execOp, ho, resolve, invoke, builtin, hs, hx, hrun, Result.andThen]
  exact h

/-- The arguments as the call copied them. -/
theorem own_args {w w3 : World} {B gg cap : Nat} {es : List Ent} {args : List ByteArray} (hown : w3.ownsRow w.heap.size 9 1 (.slice (some ⟨gg, 0, none⟩) args.length cap) args.length (args.map Value.string)) (hB : B ≤ w.heap.size) (hv : ∀ e ∈ es, e.v < w.heap.size) :
    ArgsAt w3 (fun b => B ≤ b ∧ ∀ e ∈ es, b ≠ e.v) (some ⟨gg, 0, none⟩) args ∧ args.length ≤ cap := by
  rcases hown.2 with ⟨h0, h⟩ | ⟨g, c, cur, h, hb, hg, hn, hcap, hcs, htk⟩
  · injection h0 with h1
    cases h1
  · injection h with h1 h2 h3
    injection h1 with h1
    injection h1 with h1
    subst h1 h3
    refine ⟨⟨gg, 0, cur, rfl, ⟨by omega, fun e he h => by have := hv e he; omega⟩, hg, fun j s hj => ?_⟩, hn⟩
    have hl := (List.getElem?_eq_some_iff.1 hj).1
    have h1 := congrArg (fun l => l[j]?) htk
    simp only [Nat.mul_one] at h1
    rw [List.getElem?_take_of_lt hl, List.getElem?_map, hj, Array.getElem?_toList] at h1
    rw [Nat.zero_add]
    exact h1

theorem news_far {w1 : World} {ax : Addr} {news : List Value} (h : ∀ j u, news[j]? = some u → w1.cell? (ax.add j) = some u) (hb : ax.block < w1.heap.size) (o : Obj) : ∀ j u, news[j]? = some u → ((w1.alloc o).drew).cell? (ax.add j) = some u := fun j u hj => by
  have := Off.cell_ (((Off.refl (fun _ => False) w1).alloc o).drew) (p := ax.add j) (by rw [addr_block_]; exact hb) (fun h => h)
  rw [this]
  exact h j u hj

theorem off_append {w1 w3 : World} {o : Obj} {n c : Nat} (hg : ((w1.alloc o).drew).grownBy w3 (Value.slice (some ⟨w1.heap.size, 0, none⟩) n c).ownBlock) : Off (fun _ => False) w1 w3 :=
  (((Off.refl (fun _ => False) w1).alloc o).drew).trans (off_of_grown (S := fun j => j = w1.heap.size) hg (fun j _ h => by
    have : w1.heap.size = j := by simpa [Value.ownBlock] using h
    omega)) (fun j hj h => by omega)

theorem quiet_eq {P : Program} {f : FuncId} {args : Array Value} {w : World} {n : Nat} {v : Value} (h : Calls P f args (w.drewN n) fun e w' => e = .returned v ∧ w.drewN n = w') : Calls P f args (w.drewN n) fun e w'' => e = .returned v ∧ ∃ m, w'' = w.drewN m :=
  h.mono fun _ _ ⟨he, hm⟩ => ⟨he, n, hm.symm⟩

theorem count_below {B : Nat} {w w1 w3 w4 : World} (h1 : Below B w w1) (h3 : Off (fun _ => False) w1 w3) (h4 : Off (fun j => B ≤ j) w3 w4) (hB : B ≤ w.heap.size) (n : Nat) : Below B w (w4.drewN n) :=
  ((((Below.off' h1).trans h3 (fun _ _ h => h.elim)).trans h4 (fun _ _ h => h)).drewN n).below (fun _ _ h => h) hB

end Go.Proofs.YtpcmiaablanmeaaGreatDoor
