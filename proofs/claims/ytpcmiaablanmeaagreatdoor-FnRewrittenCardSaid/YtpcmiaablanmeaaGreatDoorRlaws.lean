/- What is read of arguments with others behind them. No function is looked at. -/
import Derived.Test.YtpcmiaablanmeaaGreatDoorReads
namespace Go.Proofs.YtpcmiaablanmeaaGreatDoor
open Go.RowKit Go.Lib

theorem Means.more {fs : List FD} {b : ByteArray} {rest : List ByteArray} {i : Nat} {v : ByteArray} {rest' : List ByteArray} (h : Means fs b rest i v rest') (m : List ByteArray) : Means fs b (rest ++ m) i v (rest' ++ m) := by
  rcases h with ⟨k, h1, h2, h3, rfl⟩ | ⟨h1, h2, h3, h4, rfl⟩ | ⟨h1, h2, h3, rfl⟩
  · exact .inl ⟨k, h1, h2, h3, rfl⟩
  · exact .inr (.inl ⟨h1, h2, h3, h4, rfl⟩)
  · exact .inr (.inr ⟨h1, h2, h3, rfl⟩)

/-- Behind arguments that are all read others are read on. -/
theorem Reads.more {fs cur : List FD} {args seen : List ByteArray} {cur' : List FD} {seen' rest : List ByteArray} {ended : Bool} (h : Reads fs cur args seen cur' seen' rest ended) (hr : rest = []) (he : ended = false)
    {m : List ByteArray} {cur2 : List FD} {seen2 rest2 : List ByteArray} {ended2 : Bool} (hm : Reads fs cur' m seen' cur2 seen2 rest2 ended2) : Reads fs cur (args ++ m) seen cur2 seen2 rest2 ended2 := by
  induction h with
  | stop cur args seen h => subst hr; exact hm
  | term cur s rest seen h => cases he
  | step cur s b rest seen i v rest' f f' seen1 cur' seen' rest'' ended hb hme hf ht hs next ih =>
    exact .step cur s b (rest ++ m) seen i v (rest' ++ m) f f' seen1 _ _ _ _ hb (hme.more m) hf ht hs (ih hr he hm)

theorem reads_term {fs cur : List FD} {args seen : List ByteArray} {cur' : List FD} {seen' : List ByteArray} (h : Reads fs cur args seen cur' seen' [] false) (m : List ByteArray) : Reads fs cur (args ++ ⟨#[45, 45]⟩ :: m) seen cur' seen' m true :=
  h.more rfl rfl (.term _ _ _ _ rfl)

theorem reads_stop {fs cur : List FD} {args seen : List ByteArray} {cur' : List FD} {seen' : List ByteArray} (h : Reads fs cur args seen cur' seen' [] false) (m : List ByteArray) (hm : StopAt m) : Reads fs cur (args ++ m) seen cur' seen' m false :=
  h.more rfl rfl (.stop _ _ _ hm)
/-- g is f but for the value of its kind. -/
structure Only (f g : FD) : Prop where
  name : g.name = f.name
  kind : g.kind = f.kind
  on : f.kind ≠ 0 → g.on = f.on
  num : f.kind ≠ 1 → g.num = f.num
  text : f.kind = 0 ∨ f.kind = 1 → g.text = f.text

theorem Only.refl (f : FD) : Only f f := ⟨rfl, rfl, fun _ => rfl, fun _ => rfl, fun _ => rfl⟩
theorem Only.takes {f g g' : FD} {v : ByteArray} (h : Only f g) (ht : Takes g v g') : Only f g' := by
  rcases ht with ⟨hk, b, _, rfl⟩ | ⟨hk, n, _, _, _, rfl⟩ | ⟨h0, h1, rfl⟩
  · exact ⟨h.name, h.kind, fun hn => absurd (h.kind.symm.trans hk) hn, h.num, h.text⟩
  · exact ⟨h.name, h.kind, h.on, fun hn => absurd (h.kind.symm.trans hk) hn, h.text⟩
  · exact ⟨h.name, h.kind, h.on, h.num, fun hn => by
      rcases hn with hn | hn
      · exact absurd (h.kind.trans hn) h0
      · exact absurd (h.kind.trans hn) h1⟩

/-- Flags that are others but for the values of their kinds. -/
def OnlyAll (fs cur : List FD) : Prop := cur.length = fs.length ∧ ∀ (i : Nat) (f g : FD), fs[i]? = some f → cur[i]? = some g → Only f g

theorem OnlyAll.refl (fs : List FD) : OnlyAll fs fs := ⟨rfl, fun i f g h1 h2 => by rw [h1] at h2; cases h2; exact Only.refl f⟩
theorem reads_only {fs0 fs cur : List FD} {args seen : List ByteArray} {cur' : List FD} {seen' rest : List ByteArray} {ended : Bool} (h : Reads fs cur args seen cur' seen' rest ended) (ho : OnlyAll fs0 cur) : OnlyAll fs0 cur' := by
  induction h with
  | stop cur args seen h => exact ho
  | term cur s rest seen h => exact ho
  | step cur s b rest seen i v rest' f f' seen1 cur' seen' rest'' ended hb hm hf ht hs next ih =>
    refine ih ⟨by rw [List.length_set]; exact ho.1, fun j a g ha hg => ?_⟩
    by_cases e : i = j
    · subst e
      rw [List.getElem?_set_self (List.getElem?_eq_some_iff.1 hf).1] at hg
      cases hg
      exact (ho.2 i a f ha hf).takes ht
    · rw [List.getElem?_set_ne e] at hg
      exact ho.2 j a g ha hg
end Go.Proofs.YtpcmiaablanmeaaGreatDoor
