/- internal/strconv.formatBase10 writes digits into a row of bytes, whatever the number and however long the row: it returns, and only that row has turned. (The table uint64pow10 is not asked.) After the library's own walk over this function (Derived/Shelf/Strconv/Itoa2.lean). -/
import Derived.Test.YtpcmiaablanmeaaGreatDoorWords
import Derived.Lib.Walk
import Derived.Lib.ItoaWalk
import Derived.Lib.ItoaMem
import Derived.RegionTactic
import Derived.BigRegion
import Derived.BigCall
import Derived.BigGuard
import Derived.CellFam
namespace Go.Proofs.YtpcmiaablanmeaaGreatDoor
open Go.RowKit Go.Sort Go.Lib

/-- The first M cells of block blk are bytes; but for this block and new ones the world is as w was. -/
def BRow (w : World) (blk M : Nat) (W : World) : Prop := w.grownBy W (some blk) ∧ ∀ t, t < M → ∃ b : UInt8, W.cell? ⟨blk, t, none⟩ = some (.int .u8 b.toNat) ∧ W.frozen? ⟨blk, t, none⟩ = false

theorem BRow.drew {w W : World} {blk M : Nat} (h : BRow w blk M W) : BRow w blk M W.drew := ⟨⟨h.1.os, h.1.tape, h.1.output, h.1.size, h.1.block⟩, h.2⟩
theorem BRow.store {w W : World} {blk M : Nat} (h : BRow w blk M W) (i : Nat) (hi : i < M) (x : Int) (h0 : 0 ≤ x) (h1 : x < 256) : BRow w blk M (W.setCell ⟨blk, i, none⟩ (.int .u8 x)) := by
  refine ⟨⟨h.1.os, h.1.tape, h.1.output, by simpa [World.setCell] using h.1.size, fun j hj hne => (Below.heap_setCell W _ _ j (fun e => hne (by rw [e]))).trans (h.1.block j hj hne)⟩, fun t ht => ?_⟩
  obtain ⟨b, hc, hf⟩ := h.2 t ht
  by_cases e : t = i
  · subst e
    obtain ⟨n, rfl⟩ := Int.eq_ofNat_of_zero_le h0
    exact ⟨UInt8.ofNat n, by rw [World.cell?_setCell_same _ _ _ hc]; simp; omega, by rw [World.frozen?_setCell]; exact hf⟩
  · exact ⟨b, by rw [World.cell?_setCell_other _ _ _ _ (by intro e'; simp only [Addr.mk.injEq] at e'; omega)]; exact hc, by rw [World.frozen?_setCell]; exact hf⟩

/-- What the walk reads of it. -/
theorem BRow.facts {w W : World} {blk M : Nat} (h : BRow w blk M W) (off N : Nat) (hN : off + N ≤ M) : ∃ G : Nat → Int, (∀ t, t < N → W.cell? ⟨blk, off + t, none⟩ = some (.int .u8 (G t))) ∧ ∀ t, t < N → W.frozen? ⟨blk, off + t, none⟩ = false := by
  refine ⟨fun t => if ht : off + t < M then ((Classical.choose (h.2 (off + t) ht)).toNat : Int) else 0, fun t ht => ?_, fun t ht => ?_⟩
  · simp only [dif_pos (by omega : off + t < M)]
    exact (Classical.choose_spec (h.2 (off + t) (by omega))).1
  · exact (Classical.choose_spec (h.2 (off + t) (by omega))).2

/-- A part of it as a list of bytes. -/
theorem BRow.list {w W : World} {blk M : Nat} (h : BRow w blk M W) (off N : Nat) (hN : off + N ≤ M) : ∃ l : List UInt8, l.length = N ∧ ∀ j (hj : j < l.length), W.cell? ((⟨blk, off, none⟩ : Addr).add j) = some (.int .u8 (l[j].toNat : Int)) := by
  refine ⟨(List.range N).map fun t => if ht : off + t < M then Classical.choose (h.2 (off + t) ht) else 0, by simp, fun j hj => ?_⟩
  have hj' : j < N := by simpa using hj
  rw [add_plain]
  simp only [List.getElem_map, List.getElem_range, dif_pos (by omega : off + j < M)]
  exact (Classical.choose_spec (h.2 (off + j) (by omega))).1

theorem smBound (i : Nat) : 0 ≤ ((sm i).toNat : Int) ∧ ((sm i).toNat : Int) < 256 := ⟨by omega, by have := (sm i).toNat_lt; omega⟩

set_option maxHeartbeats 12800000 in
set_option maxRecDepth 100000 in
theorem fmt10_any (blk off cap N M : Nat) (u : Nat) (w : World) (hB : BRow w blk M w) (hoN : off + N ≤ M) (hu64 : u < 18446744073709551616) (hsz : N < 4611686018427387904) :
    Calls Tryz.prog 150 #[.slice (some ⟨blk, off, none⟩) N cap, .int .u64 u] w fun e w' => e = .returned (.tuple #[]) ∧ BRow w blk M w' := by
  go_enter Tryz.func150, Tryz.ntmps150
  go_name_bytes SM hSM
  have eSM : SM = Lib.smalls := by rw [← hSM]; decide +kernel
  subst eSM
  clear hSM
  go_wp2
  go_loopw [1, 4] (fun vu vn wr => ∃ (nd v : Nat), vu = .int .u64 v ∧ vn = .int .i64 nd ∧ nd ≤ N ∧ v < 18446744073709551616 ∧ Hid (BRow w blk M wr)) (fun _ vn _ => (RowKit.intOf vn).toNat)
  case atStart => exact ⟨N, u, rfl, rfl, Nat.le_refl _, hu64, hide hB⟩
  case round =>
    obtain ⟨nd, v, rfl, rfl, hnd, hv64, HR0⟩ := hrel
    obtain ⟨W0, rfl⟩ : ∃ W0 : World, W0 = wr := ⟨_, rfl⟩
    clear hB
    obtain ⟨G0, hc0, hf0⟩ := HR0.out.facts off N hoN
    by_cases h8 : 8 ≤ nd
    · obtain ⟨m, rfl⟩ : ∃ m, nd = m + 8 := ⟨nd - 8, by omega⟩
      go_wp2
      go_name_slot 9 x0 hx0
      have hxe0 : x0 = (((v % 100) * 2 : Nat) : Int) := by omega
      have hlt0 : (v % 100) * 2 < 199 := by omega
      have hXa0 : ∀ w, (Instr.index 9 (.string Lib.smalls) (.int .u32 (x0 + 1))).run Tryz.prog w = .ok (.int .u8 ((sm ((v % 100) * 2 + 1)).toNat : Int)) w := idx_smalls 9 Tryz.underlying9 .u32 _ _ (by omega) (by omega)
      have hXb0 : ∀ w, (Instr.index 9 (.string Lib.smalls) (.int .u32 x0)).run Tryz.prog w = .ok (.int .u8 ((sm ((v % 100) * 2)).toNat : Int)) w := idx_smalls 9 Tryz.underlying9 .u32 _ _ (by omega) (by omega)
      have hlo0 : 0 ≤ x0 := by omega
      have hhi0 : x0 ≤ 198 := by omega
      clear hx0 hxe0 hlt0
      go_region
      go_wp2
      go_name_world W1 hW1
      have HR1 : Hid (BRow w blk M W1) := by rw [← hW1]; exact hide (((HR0.out.store (off + (m + 6 + 1)) (by omega) _ (smBound _).1 (smBound _).2).store (off + (m + 6)) (by omega) _ (smBound _).1 (smBound _).2).drew)
      clear hW1 hc0 hf0 HR0 hXa0 hXb0
      obtain ⟨G1, hc1, hf1⟩ := HR1.out.facts off N hoN
      go_name_slot 8 x1 hx1
      have hxe1 : x1 = (((v / 100 % 100) * 2 : Nat) : Int) := by omega
      have hlt1 : (v / 100 % 100) * 2 < 199 := by omega
      have hXa1 : ∀ w, (Instr.index 9 (.string Lib.smalls) (.int .u32 (x1 + 1))).run Tryz.prog w = .ok (.int .u8 ((sm ((v / 100 % 100) * 2 + 1)).toNat : Int)) w := idx_smalls 9 Tryz.underlying9 .u32 _ _ (by omega) (by omega)
      have hXb1 : ∀ w, (Instr.index 9 (.string Lib.smalls) (.int .u32 x1)).run Tryz.prog w = .ok (.int .u8 ((sm ((v / 100 % 100) * 2)).toNat : Int)) w := idx_smalls 9 Tryz.underlying9 .u32 _ _ (by omega) (by omega)
      have hlo1 : 0 ≤ x1 := by omega
      have hhi1 : x1 ≤ 198 := by omega
      clear hx1 hxe1 hlt1
      go_region
      go_wp2
      go_name_world W2 hW2
      have HR2 : Hid (BRow w blk M W2) := by rw [← hW2]; exact hide (((HR1.out.store (off + (m + 4 + 1)) (by omega) _ (smBound _).1 (smBound _).2).store (off + (m + 4)) (by omega) _ (smBound _).1 (smBound _).2).drew)
      clear hW2 hc1 hf1 HR1 hXa1 hXb1
      obtain ⟨G2, hc2, hf2⟩ := HR2.out.facts off N hoN
      go_name_slot 11 x2 hx2
      have hxe2 : x2 = (((v / 100 / 100 % 100) * 2 : Nat) : Int) := by omega
      have hlt2 : (v / 100 / 100 % 100) * 2 < 199 := by omega
      have hXa2 : ∀ w, (Instr.index 9 (.string Lib.smalls) (.int .u32 (x2 + 1))).run Tryz.prog w = .ok (.int .u8 ((sm ((v / 100 / 100 % 100) * 2 + 1)).toNat : Int)) w := idx_smalls 9 Tryz.underlying9 .u32 _ _ (by omega) (by omega)
      have hXb2 : ∀ w, (Instr.index 9 (.string Lib.smalls) (.int .u32 x2)).run Tryz.prog w = .ok (.int .u8 ((sm ((v / 100 / 100 % 100) * 2)).toNat : Int)) w := idx_smalls 9 Tryz.underlying9 .u32 _ _ (by omega) (by omega)
      have hlo2 : 0 ≤ x2 := by omega
      have hhi2 : x2 ≤ 198 := by omega
      clear hx2 hxe2 hlt2
      go_region
      go_wp2
      go_name_world W3 hW3
      have HR3 : Hid (BRow w blk M W3) := by rw [← hW3]; exact hide (((HR2.out.store (off + (m + 2 + 1)) (by omega) _ (smBound _).1 (smBound _).2).store (off + (m + 2)) (by omega) _ (smBound _).1 (smBound _).2).drew)
      clear hW3 hc2 hf2 HR2 hXa2 hXb2
      obtain ⟨G3, hc3, hf3⟩ := HR3.out.facts off N hoN
      go_name_slot 10 x3 hx3
      have hxe3 : x3 = (((v / 100 / 100 / 100 % 100) * 2 : Nat) : Int) := by omega
      have hlt3 : (v / 100 / 100 / 100 % 100) * 2 < 199 := by omega
      have hXa3 : ∀ w, (Instr.index 9 (.string Lib.smalls) (.int .u32 (x3 + 1))).run Tryz.prog w = .ok (.int .u8 ((sm ((v / 100 / 100 / 100 % 100) * 2 + 1)).toNat : Int)) w := idx_smalls 9 Tryz.underlying9 .u32 _ _ (by omega) (by omega)
      have hXb3 : ∀ w, (Instr.index 9 (.string Lib.smalls) (.int .u32 x3)).run Tryz.prog w = .ok (.int .u8 ((sm ((v / 100 / 100 / 100 % 100) * 2)).toNat : Int)) w := idx_smalls 9 Tryz.underlying9 .u32 _ _ (by omega) (by omega)
      have hlo3 : 0 ≤ x3 := by omega
      have hhi3 : x3 ≤ 198 := by omega
      clear hx3 hxe3 hlt3
      go_region
      go_wp2
      go_roundw
      case rel => exact ⟨m, v / 100000000, by first | go_num | (congr 1; omega), by first | go_num | (congr 1; omega), by omega, by omega, hide (((HR3.out.store (off + (m + 1)) (by omega) _ (smBound _).1 (smBound _).2).store (off + (m)) (by omega) _ (smBound _).1 (smBound _).2).drew)⟩
      case measure => simp [RowKit.intOf]; omega
    · have hvw : IntKind.u32.wrap (v : Int) = ((v % 4294967296 : Nat) : Int) := by rw [IntKind.wrap_u32]; omega
      obtain ⟨x, hx⟩ : ∃ x, x = v % 4294967296 := ⟨_, rfl⟩
      have hx32 : x < 4294967296 := by omega
      rw [← hx] at hvw
      clear hx
      have hc8 : nd = 0 ∨ nd = 1 ∨ nd = 2 ∨ nd = 3 ∨ nd = 4 ∨ nd = 5 ∨ nd = 6 ∨ nd = 7 := by omega
      rcases hc8 with rfl | rfl | rfl | rfl | rfl | rfl | rfl | rfl
      · -- nd = 0
        go_wp2
        go_end0
        exact ⟨rfl, HR0.out⟩
      · -- nd = 1
        go_wp2
        go_end0
        exact ⟨rfl, HR0.out.store (off + 0) (by omega) _ (by omega) (by omega)⟩
      · -- nd = 2
        go_wp2
        go_name_slot 16 x0 hx0
        have hxe0 : x0 = (((x % 100) * 2 : Nat) : Int) := by omega
        have hlt0 : (x % 100) * 2 < 199 := by omega
        have hXa0 : ∀ w, (Instr.index 9 (.string Lib.smalls) (.int .u32 (x0 + 1))).run Tryz.prog w = .ok (.int .u8 ((sm ((x % 100) * 2 + 1)).toNat : Int)) w := idx_smalls 9 Tryz.underlying9 .u32 _ _ (by omega) (by omega)
        have hXb0 : ∀ w, (Instr.index 9 (.string Lib.smalls) (.int .u32 x0)).run Tryz.prog w = .ok (.int .u8 ((sm ((x % 100) * 2)).toNat : Int)) w := idx_smalls 9 Tryz.underlying9 .u32 _ _ (by omega) (by omega)
        have hlo0 : 0 ≤ x0 := by omega
        have hhi0 : x0 ≤ 198 := by omega
        clear hx0 hxe0 hlt0
        go_region
        go_wp2
        go_end0
        exact ⟨rfl, ((HR0.out.store (off + (0 + 1)) (by omega) _ (smBound _).1 (smBound _).2).store (off + (0)) (by omega) _ (smBound _).1 (smBound _).2).drew⟩
      · -- nd = 3
        go_wp2
        go_name_slot 16 x0 hx0
        have hxe0 : x0 = (((x % 100) * 2 : Nat) : Int) := by omega
        have hlt0 : (x % 100) * 2 < 199 := by omega
        have hXa0 : ∀ w, (Instr.index 9 (.string Lib.smalls) (.int .u32 (x0 + 1))).run Tryz.prog w = .ok (.int .u8 ((sm ((x % 100) * 2 + 1)).toNat : Int)) w := idx_smalls 9 Tryz.underlying9 .u32 _ _ (by omega) (by omega)
        have hXb0 : ∀ w, (Instr.index 9 (.string Lib.smalls) (.int .u32 x0)).run Tryz.prog w = .ok (.int .u8 ((sm ((x % 100) * 2)).toNat : Int)) w := idx_smalls 9 Tryz.underlying9 .u32 _ _ (by omega) (by omega)
        have hlo0 : 0 ≤ x0 := by omega
        have hhi0 : x0 ≤ 198 := by omega
        clear hx0 hxe0 hlt0
        go_region
        go_wp2
        go_end0
        exact ⟨rfl, (((HR0.out.store (off + (1 + 1)) (by omega) _ (smBound _).1 (smBound _).2).store (off + (1)) (by omega) _ (smBound _).1 (smBound _).2).store (off + 0) (by omega) _ (by omega) (by omega)).drew⟩
      · -- nd = 4
        go_wp2
        go_name_slot 15 x0 hx0
        have hxe0 : x0 = (((x % 100) * 2 : Nat) : Int) := by omega
        have hlt0 : (x % 100) * 2 < 199 := by omega
        have hXa0 : ∀ w, (Instr.index 9 (.string Lib.smalls) (.int .u32 (x0 + 1))).run Tryz.prog w = .ok (.int .u8 ((sm ((x % 100) * 2 + 1)).toNat : Int)) w := idx_smalls 9 Tryz.underlying9 .u32 _ _ (by omega) (by omega)
        have hXb0 : ∀ w, (Instr.index 9 (.string Lib.smalls) (.int .u32 x0)).run Tryz.prog w = .ok (.int .u8 ((sm ((x % 100) * 2)).toNat : Int)) w := idx_smalls 9 Tryz.underlying9 .u32 _ _ (by omega) (by omega)
        have hlo0 : 0 ≤ x0 := by omega
        have hhi0 : x0 ≤ 198 := by omega
        clear hx0 hxe0 hlt0
        go_region
        go_wp2
        go_name_world W1 hW1
        have HR1 : Hid (BRow w blk M W1) := by rw [← hW1]; exact hide (((HR0.out.store (off + (2 + 1)) (by omega) _ (smBound _).1 (smBound _).2).store (off + (2)) (by omega) _ (smBound _).1 (smBound _).2).drew)
        clear hW1 hc0 hf0 HR0 hXa0 hXb0
        obtain ⟨G1, hc1, hf1⟩ := HR1.out.facts off N hoN
        go_name_slot 14 x1 hx1
        have hxe1 : x1 = (((x / 100 % 100) * 2 : Nat) : Int) := by omega
        have hlt1 : (x / 100 % 100) * 2 < 199 := by omega
        have hXa1 : ∀ w, (Instr.index 9 (.string Lib.smalls) (.int .u32 (x1 + 1))).run Tryz.prog w = .ok (.int .u8 ((sm ((x / 100 % 100) * 2 + 1)).toNat : Int)) w := idx_smalls 9 Tryz.underlying9 .u32 _ _ (by omega) (by omega)
        have hXb1 : ∀ w, (Instr.index 9 (.string Lib.smalls) (.int .u32 x1)).run Tryz.prog w = .ok (.int .u8 ((sm ((x / 100 % 100) * 2)).toNat : Int)) w := idx_smalls 9 Tryz.underlying9 .u32 _ _ (by omega) (by omega)
        have hlo1 : 0 ≤ x1 := by omega
        have hhi1 : x1 ≤ 198 := by omega
        clear hx1 hxe1 hlt1
        go_region
        go_wp2
        go_end0
        exact ⟨rfl, ((HR1.out.store (off + (0 + 1)) (by omega) _ (smBound _).1 (smBound _).2).store (off + (0)) (by omega) _ (smBound _).1 (smBound _).2).drew⟩
      · -- nd = 5
        go_wp2
        go_name_slot 15 x0 hx0
        have hxe0 : x0 = (((x % 100) * 2 : Nat) : Int) := by omega
        have hlt0 : (x % 100) * 2 < 199 := by omega
        have hXa0 : ∀ w, (Instr.index 9 (.string Lib.smalls) (.int .u32 (x0 + 1))).run Tryz.prog w = .ok (.int .u8 ((sm ((x % 100) * 2 + 1)).toNat : Int)) w := idx_smalls 9 Tryz.underlying9 .u32 _ _ (by omega) (by omega)
        have hXb0 : ∀ w, (Instr.index 9 (.string Lib.smalls) (.int .u32 x0)).run Tryz.prog w = .ok (.int .u8 ((sm ((x % 100) * 2)).toNat : Int)) w := idx_smalls 9 Tryz.underlying9 .u32 _ _ (by omega) (by omega)
        have hlo0 : 0 ≤ x0 := by omega
        have hhi0 : x0 ≤ 198 := by omega
        clear hx0 hxe0 hlt0
        go_region
        go_wp2
        go_name_world W1 hW1
        have HR1 : Hid (BRow w blk M W1) := by rw [← hW1]; exact hide (((HR0.out.store (off + (3 + 1)) (by omega) _ (smBound _).1 (smBound _).2).store (off + (3)) (by omega) _ (smBound _).1 (smBound _).2).drew)
        clear hW1 hc0 hf0 HR0 hXa0 hXb0
        obtain ⟨G1, hc1, hf1⟩ := HR1.out.facts off N hoN
        go_name_slot 14 x1 hx1
        have hxe1 : x1 = (((x / 100 % 100) * 2 : Nat) : Int) := by omega
        have hlt1 : (x / 100 % 100) * 2 < 199 := by omega
        have hXa1 : ∀ w, (Instr.index 9 (.string Lib.smalls) (.int .u32 (x1 + 1))).run Tryz.prog w = .ok (.int .u8 ((sm ((x / 100 % 100) * 2 + 1)).toNat : Int)) w := idx_smalls 9 Tryz.underlying9 .u32 _ _ (by omega) (by omega)
        have hXb1 : ∀ w, (Instr.index 9 (.string Lib.smalls) (.int .u32 x1)).run Tryz.prog w = .ok (.int .u8 ((sm ((x / 100 % 100) * 2)).toNat : Int)) w := idx_smalls 9 Tryz.underlying9 .u32 _ _ (by omega) (by omega)
        have hlo1 : 0 ≤ x1 := by omega
        have hhi1 : x1 ≤ 198 := by omega
        clear hx1 hxe1 hlt1
        go_region
        go_wp2
        go_end0
        exact ⟨rfl, (((HR1.out.store (off + (1 + 1)) (by omega) _ (smBound _).1 (smBound _).2).store (off + (1)) (by omega) _ (smBound _).1 (smBound _).2).store (off + 0) (by omega) _ (by omega) (by omega)).drew⟩
      · -- nd = 6
        go_wp2
        go_name_slot 15 x0 hx0
        have hxe0 : x0 = (((x % 100) * 2 : Nat) : Int) := by omega
        have hlt0 : (x % 100) * 2 < 199 := by omega
        have hXa0 : ∀ w, (Instr.index 9 (.string Lib.smalls) (.int .u32 (x0 + 1))).run Tryz.prog w = .ok (.int .u8 ((sm ((x % 100) * 2 + 1)).toNat : Int)) w := idx_smalls 9 Tryz.underlying9 .u32 _ _ (by omega) (by omega)
        have hXb0 : ∀ w, (Instr.index 9 (.string Lib.smalls) (.int .u32 x0)).run Tryz.prog w = .ok (.int .u8 ((sm ((x % 100) * 2)).toNat : Int)) w := idx_smalls 9 Tryz.underlying9 .u32 _ _ (by omega) (by omega)
        have hlo0 : 0 ≤ x0 := by omega
        have hhi0 : x0 ≤ 198 := by omega
        clear hx0 hxe0 hlt0
        go_region
        go_wp2
        go_name_world W1 hW1
        have HR1 : Hid (BRow w blk M W1) := by rw [← hW1]; exact hide (((HR0.out.store (off + (4 + 1)) (by omega) _ (smBound _).1 (smBound _).2).store (off + (4)) (by omega) _ (smBound _).1 (smBound _).2).drew)
        clear hW1 hc0 hf0 HR0 hXa0 hXb0
        obtain ⟨G1, hc1, hf1⟩ := HR1.out.facts off N hoN
        go_name_slot 14 x1 hx1
        have hxe1 : x1 = (((x / 100 % 100) * 2 : Nat) : Int) := by omega
        have hlt1 : (x / 100 % 100) * 2 < 199 := by omega
        have hXa1 : ∀ w, (Instr.index 9 (.string Lib.smalls) (.int .u32 (x1 + 1))).run Tryz.prog w = .ok (.int .u8 ((sm ((x / 100 % 100) * 2 + 1)).toNat : Int)) w := idx_smalls 9 Tryz.underlying9 .u32 _ _ (by omega) (by omega)
        have hXb1 : ∀ w, (Instr.index 9 (.string Lib.smalls) (.int .u32 x1)).run Tryz.prog w = .ok (.int .u8 ((sm ((x / 100 % 100) * 2)).toNat : Int)) w := idx_smalls 9 Tryz.underlying9 .u32 _ _ (by omega) (by omega)
        have hlo1 : 0 ≤ x1 := by omega
        have hhi1 : x1 ≤ 198 := by omega
        clear hx1 hxe1 hlt1
        go_region
        go_wp2
        go_name_world W2 hW2
        have HR2 : Hid (BRow w blk M W2) := by rw [← hW2]; exact hide (((HR1.out.store (off + (2 + 1)) (by omega) _ (smBound _).1 (smBound _).2).store (off + (2)) (by omega) _ (smBound _).1 (smBound _).2).drew)
        clear hW2 hc1 hf1 HR1 hXa1 hXb1
        obtain ⟨G2, hc2, hf2⟩ := HR2.out.facts off N hoN
        go_name_slot 16 x2 hx2
        have hxe2 : x2 = ((((x / 10000) % 100) * 2 : Nat) : Int) := by omega
        have hlt2 : ((x / 10000) % 100) * 2 < 199 := by omega
        have hXa2 : ∀ w, (Instr.index 9 (.string Lib.smalls) (.int .u32 (x2 + 1))).run Tryz.prog w = .ok (.int .u8 ((sm (((x / 10000) % 100) * 2 + 1)).toNat : Int)) w := idx_smalls 9 Tryz.underlying9 .u32 _ _ (by omega) (by omega)
        have hXb2 : ∀ w, (Instr.index 9 (.string Lib.smalls) (.int .u32 x2)).run Tryz.prog w = .ok (.int .u8 ((sm (((x / 10000) % 100) * 2)).toNat : Int)) w := idx_smalls 9 Tryz.underlying9 .u32 _ _ (by omega) (by omega)
        have hlo2 : 0 ≤ x2 := by omega
        have hhi2 : x2 ≤ 198 := by omega
        clear hx2 hxe2 hlt2
        go_region
        go_wp2
        go_end0
        exact ⟨rfl, ((HR2.out.store (off + (0 + 1)) (by omega) _ (smBound _).1 (smBound _).2).store (off + (0)) (by omega) _ (smBound _).1 (smBound _).2).drew⟩
      · -- nd = 7
        go_wp2
        go_name_slot 15 x0 hx0
        have hxe0 : x0 = (((x % 100) * 2 : Nat) : Int) := by omega
        have hlt0 : (x % 100) * 2 < 199 := by omega
        have hXa0 : ∀ w, (Instr.index 9 (.string Lib.smalls) (.int .u32 (x0 + 1))).run Tryz.prog w = .ok (.int .u8 ((sm ((x % 100) * 2 + 1)).toNat : Int)) w := idx_smalls 9 Tryz.underlying9 .u32 _ _ (by omega) (by omega)
        have hXb0 : ∀ w, (Instr.index 9 (.string Lib.smalls) (.int .u32 x0)).run Tryz.prog w = .ok (.int .u8 ((sm ((x % 100) * 2)).toNat : Int)) w := idx_smalls 9 Tryz.underlying9 .u32 _ _ (by omega) (by omega)
        have hlo0 : 0 ≤ x0 := by omega
        have hhi0 : x0 ≤ 198 := by omega
        clear hx0 hxe0 hlt0
        go_region
        go_wp2
        go_name_world W1 hW1
        have HR1 : Hid (BRow w blk M W1) := by rw [← hW1]; exact hide (((HR0.out.store (off + (5 + 1)) (by omega) _ (smBound _).1 (smBound _).2).store (off + (5)) (by omega) _ (smBound _).1 (smBound _).2).drew)
        clear hW1 hc0 hf0 HR0 hXa0 hXb0
        obtain ⟨G1, hc1, hf1⟩ := HR1.out.facts off N hoN
        go_name_slot 14 x1 hx1
        have hxe1 : x1 = (((x / 100 % 100) * 2 : Nat) : Int) := by omega
        have hlt1 : (x / 100 % 100) * 2 < 199 := by omega
        have hXa1 : ∀ w, (Instr.index 9 (.string Lib.smalls) (.int .u32 (x1 + 1))).run Tryz.prog w = .ok (.int .u8 ((sm ((x / 100 % 100) * 2 + 1)).toNat : Int)) w := idx_smalls 9 Tryz.underlying9 .u32 _ _ (by omega) (by omega)
        have hXb1 : ∀ w, (Instr.index 9 (.string Lib.smalls) (.int .u32 x1)).run Tryz.prog w = .ok (.int .u8 ((sm ((x / 100 % 100) * 2)).toNat : Int)) w := idx_smalls 9 Tryz.underlying9 .u32 _ _ (by omega) (by omega)
        have hlo1 : 0 ≤ x1 := by omega
        have hhi1 : x1 ≤ 198 := by omega
        clear hx1 hxe1 hlt1
        go_region
        go_wp2
        go_name_world W2 hW2
        have HR2 : Hid (BRow w blk M W2) := by rw [← hW2]; exact hide (((HR1.out.store (off + (3 + 1)) (by omega) _ (smBound _).1 (smBound _).2).store (off + (3)) (by omega) _ (smBound _).1 (smBound _).2).drew)
        clear hW2 hc1 hf1 HR1 hXa1 hXb1
        obtain ⟨G2, hc2, hf2⟩ := HR2.out.facts off N hoN
        go_name_slot 16 x2 hx2
        have hxe2 : x2 = ((((x / 10000) % 100) * 2 : Nat) : Int) := by omega
        have hlt2 : ((x / 10000) % 100) * 2 < 199 := by omega
        have hXa2 : ∀ w, (Instr.index 9 (.string Lib.smalls) (.int .u32 (x2 + 1))).run Tryz.prog w = .ok (.int .u8 ((sm (((x / 10000) % 100) * 2 + 1)).toNat : Int)) w := idx_smalls 9 Tryz.underlying9 .u32 _ _ (by omega) (by omega)
        have hXb2 : ∀ w, (Instr.index 9 (.string Lib.smalls) (.int .u32 x2)).run Tryz.prog w = .ok (.int .u8 ((sm (((x / 10000) % 100) * 2)).toNat : Int)) w := idx_smalls 9 Tryz.underlying9 .u32 _ _ (by omega) (by omega)
        have hlo2 : 0 ≤ x2 := by omega
        have hhi2 : x2 ≤ 198 := by omega
        clear hx2 hxe2 hlt2
        go_region
        go_wp2
        go_end0
        exact ⟨rfl, (((HR2.out.store (off + (1 + 1)) (by omega) _ (smBound _).1 (smBound _).2).store (off + (1)) (by omega) _ (smBound _).1 (smBound _).2).store (off + 0) (by omega) _ (by omega) (by omega)).drew⟩
end Go.Proofs.YtpcmiaablanmeaaGreatDoor
