/- strconv.Itoa gives some text back, whatever the table uint64pow10 holds: it returns, and nothing that was there has turned. After the library's own walks (Derived/Shelf/Strconv/Itoa1.lean, Itoa3.lean). -/
import Derived.Test.YtpcmiaablanmeaaGreatDoorFmt10
import Derived.Test.YtpcmiaablanmeaaGreatDoorShelf
import Derived.Lib.Walk
namespace Go.Proofs.YtpcmiaablanmeaaGreatDoor
open Go.RowKit Go.Sort Go.Lib

/-- The table's cells hold numbers; nothing is asked of them. -/
def TabOk (w : World) : Prop := ∀ q, q < 20 → ∃ x : Int, w.cell? ⟨5, q, none⟩ = some (.int .u64 x)

theorem TabOk.below {B : Nat} {w w' : World} (h : TabOk w) (hb : Below B w w') (hB : 5 < B) : TabOk w' := fun q hq => by
  obtain ⟨x, hx⟩ := h q hq
  exact ⟨x, (hb.cell hB).trans hx⟩
theorem TabOk.lt {w : World} (h : TabOk w) : 5 < w.heap.size := by
  obtain ⟨x, hx⟩ := h 0 (by omega)
  rcases Nat.lt_or_ge 5 w.heap.size with h1 | h1
  · exact h1
  · simp [World.cell?, Array.getElem?_eq_none h1] at hx

def SomeNd (w : World) (e : Ending) (w' : World) : Prop := ∃ nd : Nat, nd ≤ 20 ∧ e = .returned (.int .i64 nd) ∧ w = w'

set_option maxHeartbeats 1000000 in
theorem numDigits_some (u : Nat) (w : World) (h2 : u < 18446744073709551616) (ht : TabOk w) : Calls Tryz.prog 149 #[.int .u64 u] w (SomeNd w) := by
  have hL : Lib.bitLen u ≤ 64 := Lib.bitLen_le u 64 (Nat.le_refl _) h2
  have hq20 : Lib.l10 (Lib.bitLen u) < 20 := by unfold Lib.l10; omega
  obtain ⟨x, hcell⟩ := ht _ hq20
  have hto : ((u : Int)).toNat = u := by omega
  clear ht
  generalize hq : Lib.l10 (Lib.bitLen u) = q at hcell hq20
  go_enter Tryz.func149, Tryz.ntmps149
  go_wp2_with (first
    | (go_at_call 81; refine (Tryz.bits_Len64 _ _ (by omega) (by omega)).mono ?_; rintro e w' ⟨rfl, rfl⟩)
    | (go_at_call 152; refine (Tryz.internal_strconv_log10Pow2 _ (by first | exact hL | (rw [hto]; exact hL)) _).mono ?_; rintro e w' ⟨rfl, rfl⟩)
    | (go_at_call 153; refine (Tryz.internal_strconv_bool2_int _ _).mono ?_; rintro e w' ⟨rfl, rfl⟩))
  · go_ret
    exact ⟨q + 1, by omega, ret_int (by omega), rfl⟩
  · go_ret
    exact ⟨q, by omega, rfl, rfl⟩

/-- Some text comes back; nothing that was there has turned. -/
def SomeStr (w : World) (e : Ending) (w' : World) : Prop := ∃ s : ByteArray, e = .returned (.string s) ∧ Below w.heap.size w w'

theorem brow_zero (w : World) (T : TypeId) : BRow (w.alloc (.cells Lib.zeros24 T)) w.heap.size 24 (w.alloc (.cells Lib.zeros24 T)) :=
  ⟨⟨rfl, rfl, rfl, Nat.le_refl _, fun _ _ _ => rfl⟩, fun t ht => ⟨0, by rw [World.cell?_alloc_new, Lib.zeros24_at t ht]; rfl, World.frozen?_alloc_new _ _ _ _⟩⟩
theorem below_row {w W : World} {T : TypeId} {M : Nat} (h : BRow (w.alloc (.cells Lib.zeros24 T)) w.heap.size M W) : Below w.heap.size w W :=
  ((Below.refl w.heap.size w).alloc (Nat.le_refl _) (.cells Lib.zeros24 T)).grown h.1 (by simp) (fun j hj => by cases hj; exact Nat.le_refl _)

set_option maxHeartbeats 2000000 in
set_option maxRecDepth 100000 in
theorem formatInt_some (n : Int) (w : World) (h0 : -9223372036854775808 ≤ n) (h1 : n ≤ 9223372036854775807) (ht : TabOk w) :
    Calls Tryz.prog 147 #[.int .i64 n, .int .i64 10] w (SomeStr w) := by
  by_cases hs : 0 ≤ n ∧ n < 100
  · obtain ⟨i, rfl⟩ : ∃ i : Nat, n = i := ⟨n.toNat, by omega⟩
    have hi : i < 100 := by omega
    go_enter Tryz.func147, Tryz.ntmps147
    go_wp2_with (go_at_call 148; refine (Tryz.internal_strconv_small i hi _).mono ?_; rintro e w' ⟨rfl, rfl⟩)
    go_ret
    exact ⟨_, rfl, Below.refl _ _⟩
  · have htw := ht.below ((Below.refl w.heap.size w).alloc (Nat.le_refl _) (.cells Lib.zeros24 198)) ht.lt
    have hal : Tryz.prog.arrayLen 198 = 24 := by kernel_rfl
    have hbr := brow_zero w 198
    by_cases hneg : n < 0
    · obtain ⟨u, rfl⟩ : ∃ u : Nat, n = -(u : Int) := ⟨n.natAbs, by omega⟩
      have hu64 : u < 18446744073709551616 := by omega
      have hwr : IntKind.u64.wrap (-IntKind.u64.wrap (-(u : Int))) = (u : Int) := by rw [IntKind.wrap_u64, IntKind.wrap_u64]; omega
      have hsl1 : ∀ nd : Nat, nd ≤ 20 → ∀ W, (Instr.sliceAt 198 (.pointer (some ⟨w.heap.size, 0, none⟩)) (some (.int .i64 1)) (some (.int .i64 (1 + (nd : Int)))) none).run Tryz.prog W = .ok (.slice (some ⟨w.heap.size, 1, none⟩) nd 23) W := fun nd hnd W => by
        rw [run_sliceAt_array_lh W 198 ⟨w.heap.size, 0, none⟩ Tryz.underlying198 .i64 .i64 1 (1 + (nd : Int)) (by omega) (by omega) (by rw [hal]; omega)]
        go_simp
        omega
      have Hsl := hide hsl1
      have Hb := hide hbr
      have Htw := hide htw
      clear hsl1 hbr htw hal ht
      go_enter Tryz.func147, Tryz.ntmps147
      go_wp2_with (go_at_call 149; refine (numDigits_some u _ hu64 Htw.out).mono ?_; rintro e w' ⟨nd, hnd, rfl, rfl⟩; have hsl := Hsl.out nd hnd)
      refine (fmt10_any _ _ _ nd 24 u _ Hb.out (by omega) hu64 (by omega)).mono ?_
      rintro e w1 ⟨rfl, hB⟩
      obtain ⟨b0, hc0, hf0⟩ := hB.2 0 (by omega)
      have hB2 := hB.store 0 (by omega) 45 (by omega) (by omega)
      have hal : Tryz.prog.arrayLen 198 = 24 := by kernel_rfl
      have hsl2 : ∀ W, (Instr.sliceAt 198 (.pointer (some ⟨w.heap.size, 0, none⟩)) none (some (.int .i64 (1 + (nd : Int)))) none).run Tryz.prog W = .ok (.slice (some ⟨w.heap.size, 0, none⟩) (1 + nd) 24) W := fun W => by
        rw [run_sliceAt_array_h W 198 ⟨w.heap.size, 0, none⟩ Tryz.underlying198 .i64 (1 + (nd : Int)) (by omega) (by rw [hal]; omega)]
        go_simp
        omega
      clear hal
      obtain ⟨l, hl, hc⟩ := hB2.list 0 (1 + nd) (by omega)
      have hcv := run_convert_bytes_back (P := Tryz.prog) (w1.setCell ⟨w.heap.size, 0, none⟩ (.int .u8 45)) 196 9 5 ⟨w.heap.size, 0, none⟩ 24 l Tryz.underlying196 Tryz.underlying5 Tryz.underlying9 hc
      rw [hl] at hcv
      have HB2 := hide hB2
      clear hB2 hB hl hc
      go_wp2
      go_ret
      exact ⟨_, rfl, below_row HB2.out⟩
    · obtain ⟨u, rfl⟩ : ∃ u : Nat, n = u := ⟨n.toNat, by omega⟩
      have hu64 : u < 18446744073709551616 := by omega
      have hsl1 : ∀ nd : Nat, nd ≤ 20 → ∀ W, (Instr.sliceAt 198 (.pointer (some ⟨w.heap.size, 0, none⟩)) (some (.int .i64 1)) (some (.int .i64 (1 + (nd : Int)))) none).run Tryz.prog W = .ok (.slice (some ⟨w.heap.size, 1, none⟩) nd 23) W := fun nd hnd W => by
        rw [run_sliceAt_array_lh W 198 ⟨w.heap.size, 0, none⟩ Tryz.underlying198 .i64 .i64 1 (1 + (nd : Int)) (by omega) (by omega) (by rw [hal]; omega)]
        go_simp
        omega
      have Hsl := hide hsl1
      have Hb := hide hbr
      have Htw := hide htw
      clear hsl1 hbr htw hal ht
      go_enter Tryz.func147, Tryz.ntmps147
      go_wp2_with (go_at_call 149; refine (numDigits_some u _ hu64 Htw.out).mono ?_; rintro e w' ⟨nd, hnd, rfl, rfl⟩; have hsl := Hsl.out nd hnd)
      refine (fmt10_any _ _ _ nd 24 u _ Hb.out (by omega) hu64 (by omega)).mono ?_
      rintro e w1 ⟨rfl, hB⟩
      obtain ⟨l, hl, hc⟩ := hB.list 1 nd (by omega)
      have hcv := run_convert_bytes_back (P := Tryz.prog) w1 196 9 5 ⟨w.heap.size, 1, none⟩ 23 l Tryz.underlying196 Tryz.underlying5 Tryz.underlying9 hc
      rw [hl] at hcv
      have hsl := Hsl.out nd hnd
      have HB := hide hB
      clear hB hl hc
      go_wp2
      go_ret
      exact ⟨_, rfl, below_row HB.out⟩

set_option maxHeartbeats 400000 in
theorem itoa_inner (n : Int) (w : World) (h0 : -9223372036854775808 ≤ n) (h1 : n ≤ 9223372036854775807) (ht : TabOk w) : Calls Tryz.prog 146 #[.int .i64 n] w (SomeStr w) := by
  have Ht := hide ht
  clear ht
  go_enter Tryz.func146, Tryz.ntmps146
  go_wp2_with (go_at_call 147; refine (formatInt_some n _ h0 h1 Ht.out).mono ?_; rintro e w' ⟨s, rfl, hb⟩)
  go_ret
  exact ⟨_, rfl, hb⟩
set_option maxHeartbeats 400000 in
theorem itoa_some (n : Int) (w : World) (h0 : -9223372036854775808 ≤ n) (h1 : n ≤ 9223372036854775807) (ht : TabOk w) : Calls Tryz.prog 145 #[.int .i64 n] w (SomeStr w) := by
  have Ht := hide ht
  clear ht
  go_enter Tryz.func145, Tryz.ntmps145
  go_wp2_with (go_at_call 146; refine (itoa_inner n _ h0 h1 Ht.out).mono ?_; rintro e w' ⟨s, rfl, hb⟩)
  go_ret
  exact ⟨_, rfl, hb⟩

/-! ### String() of the three kinds of values -/
set_option maxHeartbeats 400000 in
theorem boolString_some (b : Nat) (x : Bool) (w : World) (hc : w.cell? ⟨b, 0, none⟩ = some (.bool x)) : Calls Tryz.prog 134 #[.pointer (some ⟨b, 0, none⟩)] w (SomeStr w) := by
  go_enter Tryz.func134, Tryz.ntmps134
  go_wp2_with (go_at_call 136; refine (Tryz.strconv_FormatBool _ _).mono ?_; rintro e w' ⟨rfl, rfl⟩)
  go_ret
  exact ⟨_, rfl, Below.refl _ _⟩
set_option maxHeartbeats 400000 in
theorem intString_some (b : Nat) (n : Int) (w : World) (hc : w.cell? ⟨b, 0, none⟩ = some (.int .i64 n)) (h0 : -9223372036854775808 ≤ n) (h1 : n ≤ 9223372036854775807) (ht : TabOk w) : Calls Tryz.prog 159 #[.pointer (some ⟨b, 0, none⟩)] w (SomeStr w) := by
  have Ht := hide ht
  clear ht
  go_enter Tryz.func159, Tryz.ntmps159
  go_wp2_with (go_at_call 145; refine (itoa_some n _ h0 h1 Ht.out).mono ?_; rintro e w' ⟨s, rfl, hb⟩)
  go_ret
  exact ⟨_, rfl, hb⟩
set_option maxHeartbeats 400000 in
theorem stringString_some (b : Nat) (s : ByteArray) (w : World) (hc : w.cell? ⟨b, 0, none⟩ = some (.string s)) : Calls Tryz.prog 167 #[.pointer (some ⟨b, 0, none⟩)] w (SomeStr w) := by
  go_enter Tryz.func167, Tryz.ntmps167
  go_wp2
  go_ret
  exact ⟨_, rfl, Below.refl _ _⟩
end Go.Proofs.YtpcmiaablanmeaaGreatDoor
