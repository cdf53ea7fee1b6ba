/- spec.Equal on answers that read alike: a contract. -/
import Derived.Test.YtpcmiaablanmeaaGreatDoorApp
namespace Go.Proofs.YtpcmiaablanmeaaGreatDoor
open Go.RowKit

theorem FlagsRd.off {w w' : World} {A : Option Addr} {fs : List FD} (h : FlagsRd w A fs) (ho : Off (fun _ => False) w w') : FlagsRd w' A fs := fun i hi => by
  obtain ⟨b, off, hA, hc⟩ := h i hi
  refine ⟨b, off, hA, fun j f hj => ?_⟩
  obtain ⟨h0, h1, h2, h3, h4⟩ := hc j f hj
  exact ⟨(Off.cell_ ho (lt_of_cell h0) (fun h => h)).trans h0, (Off.cell_ ho (lt_of_cell h1) (fun h => h)).trans h1, (Off.cell_ ho (lt_of_cell h2) (fun h => h)).trans h2, (Off.cell_ ho (lt_of_cell h3) (fun h => h)).trans h3, (Off.cell_ ho (lt_of_cell h4) (fun h => h)).trans h4⟩

set_option maxHeartbeats 1000000 in
set_option maxRecDepth 100000 in
theorem equal_any (ga ma qa gb mb qb : Option Addr) (gc mc qc gd md qd : Nat) (fs : List FD) (ns rs : List ByteArray) (w : World) (hfx : FlagsRd w ga fs) (hfy : FlagsRd w gb fs) (hnx : TextsAt w ma ns) (hny : TextsAt w mb ns) (hrx : TextsAt w qa rs) (hry : TextsAt w qb rs) (hfl : fs.length ≤ 100000) (hnl : ns.length ≤ 100000) (hrl : rs.length ≤ 100000) :
    Calls Tryz.prog 24 #[.agg (ansCells (.slice ga fs.length gc) (.slice ma ns.length mc) (.slice qa rs.length qc) 0), .agg (ansCells (.slice gb fs.length gd) (.slice mb ns.length md) (.slice qb rs.length qd) 0)] w fun e w' => e = .returned (.bool true) ∧ Below w.heap.size w w' := by
  unfold ansCells
  obtain ⟨V, hV⟩ : ∃ V, V = (w.alloc (.cells #[.slice ga fs.length gc, .slice ma ns.length mc, .slice qa rs.length qc, .int .i64 0] 31)).alloc (.cells #[.slice gb fs.length gd, .slice mb ns.length md, .slice qb rs.length qd, .int .i64 0] 31) := ⟨_, rfl⟩
  have HX : Hid (Blk V w.heap.size 31 #[.slice ga fs.length gc, .slice ma ns.length mc, .slice qa rs.length qc, .int .i64 0]) := by rw [hV]; exact hide ((Blk.new _ _ _).alloc _)
  have HY : Hid (Blk V (w.heap.size + 1) 31 #[.slice gb fs.length gd, .slice mb ns.length md, .slice qb rs.length qd, .int .i64 0]) := by
    rw [hV]
    have := Blk.new (w.alloc (.cells #[.slice ga fs.length gc, .slice ma ns.length mc, .slice qa rs.length qc, .int .i64 0] 31)) 31 #[.slice gb fs.length gd, .slice mb ns.length md, .slice qb rs.length qd, .int .i64 0]
    simpa using hide this
  have HoV : Hid (Off (fun _ => False) w V) := by rw [hV]; exact hide (((Off.refl _ w).alloc _).alloc _)
  have HE1 := hide (equal_flags ga gb gc gd fs V (hfx.off HoV.out) (hfy.off HoV.out) hfl)
  have HE2 := hide (fun q => equal_texts ma mb mc md ns (V.drewN q) ((hnx.off HoV.out).drewN q) ((hny.off HoV.out).drewN q) hnl)
  have HE3 := hide (fun q => equal_texts qa qb qc qd rs (V.drewN q) ((hrx.off HoV.out).drewN q) ((hry.off HoV.out).drewN q) hrl)
  have x0 : V.cell? ⟨w.heap.size, 0, none⟩ = some (.slice ga fs.length gc) := HX.out.cell 0
  have x1 : ∀ q, (V.drewN q).cell? ⟨w.heap.size, 1, none⟩ = some (.slice ma ns.length mc) := fun q => HX.out.cell 1
  have x2 : ∀ q, (V.drewN q).cell? ⟨w.heap.size, 2, none⟩ = some (.slice qa rs.length qc) := fun q => HX.out.cell 2
  have x3 : V.cell? ⟨w.heap.size, 3, none⟩ = some (.int .i64 0) := HX.out.cell 3
  have y0 : V.cell? ⟨w.heap.size + 1, 0, none⟩ = some (.slice gb fs.length gd) := HY.out.cell 0
  have y1 : ∀ q, (V.drewN q).cell? ⟨w.heap.size + 1, 1, none⟩ = some (.slice mb ns.length md) := fun q => HY.out.cell 1
  have y2 : ∀ q, (V.drewN q).cell? ⟨w.heap.size + 1, 2, none⟩ = some (.slice qb rs.length qd) := fun q => HY.out.cell 2
  have y3 : V.cell? ⟨w.heap.size + 1, 3, none⟩ = some (.int .i64 0) := HY.out.cell 3
  clear hfx hfy hnx hny hrx hry HX HY
  go_enter Tryz.func24, Tryz.ntmps24
  go_upto_region 1 with fail
  rw [← hV]
  clear hV
  have tok1 : True := trivial
  have tok2 : True := trivial
  have tok3 : True := trivial
  go_wp2_with (first
    | (go_at_call 17; have _t := tok1; refine HE1.out.mono ?_; rintro e w7 ⟨rfl, q1, rfl⟩; have y1' := y1 q1; have x1' := x1 q1; clear tok1 y1 x1)
    | (go_at_call 18; have _t := tok2; refine (HE2.out _).mono ?_; rintro e w8 ⟨rfl, q2, rfl⟩; rw [World.drewN_drewN]; have y2' := y2 (q1 + q2); have x2' := x2 (q1 + q2); clear tok2 y2 x2)
    | (go_at_call 18; have _t := tok3; refine (HE3.out _).mono ?_; rintro e w9 ⟨rfl, q3, rfl⟩; clear tok3))
  go_ret
  exact ⟨rfl, below_drewN (HoV.out.below (fun _ _ h => h.elim) (Nat.le_refl _)) _⟩
end Go.Proofs.YtpcmiaablanmeaaGreatDoor
