/- spec.Defined: what it asks of flags. -/
import Derived.Test.YtpcmiaablanmeaaGreatDoorSign
namespace Go.Proofs.YtpcmiaablanmeaaGreatDoor
open Go.RowKit

/-- A flag that can be defined. -/
structure FD.Fine (f : FD) : Prop where
  kind0 : 0 ≤ f.kind
  kind2 : f.kind ≤ 2
  nameLen : f.name.size ≤ 1048576
  textLen : f.text.size ≤ 1048576
  nameNe : 0 < f.name.size
  nameDash : ∀ h : 0 < f.name.size, f.name[0] ≠ 45
  nameSign : signOf f.name < 0

structure DefinedP (fs : List FD) : Prop where
  len : fs.length ≤ 100
  fine : ∀ f ∈ fs, f.Fine
  apart : ∀ (i j : Nat) (f g : FD), j < i → fs[i]? = some f → fs[j]? = some g → g.name ≠ f.name

/-- A bool is handed back; if it is true, P holds; nothing that was there has turned. -/
def BoolThen (P : Prop) (w : World) (e : Ending) (w' : World) : Prop := ∃ b, e = .returned (.bool b) ∧ (b = true → P) ∧ Below w.heap.size w w'

def PartP (fs : List FD) (k : Nat) : Prop := (∀ (i : Nat) (f : FD), i < k → fs[i]? = some f → f.Fine) ∧ ∀ (i j : Nat) (f g : FD), i < k → j < i → fs[i]? = some f → fs[j]? = some g → g.name ≠ f.name

theorem partP_zero (fs : List FD) : PartP fs 0 := ⟨fun _ _ h => absurd h (by omega), fun _ _ _ _ h => absurd h (by omega)⟩
theorem partP_all (fs : List FD) (h : PartP fs fs.length) (hl : fs.length ≤ 100) : DefinedP fs :=
  ⟨hl, fun f hf => by
    obtain ⟨i, hi, rfl⟩ := List.mem_iff_getElem.1 hf
    exact h.1 i _ hi (List.getElem?_eq_getElem hi), fun i j f g hji hf hg => h.2 i j f g (List.getElem?_eq_some_iff.1 hf).1 hji hf hg⟩
theorem partP_succ (fs : List FD) (k : Nat) (f : FD) (hk : fs[k]? = some f) (h : PartP fs k) (hf : f.Fine) (hn : NoName fs f.name k) : PartP fs (k + 1) :=
  ⟨fun i g hi hg => by
    by_cases e : i = k
    · subst e; rw [hk] at hg; cases hg; exact hf
    · exact h.1 i g (by omega) hg, fun i j a b hi hji ha hb => by
    by_cases e : i = k
    · subst e; rw [hk] at ha; cases ha; exact hn j b hji hb
    · exact h.2 i j a b (by omega) hji ha hb⟩

set_option maxHeartbeats 1600000 in
set_option maxRecDepth 100000 in
theorem defined_any (A : Option Addr) (c : Nat) (fs : List FD) (w : World) (hl : fs.length ≤ 9223372036854775807) (hlc : fs.length ≤ c) (hin : FlagsIn w w.heap.size A fs) (hok : ∀ f ∈ fs, f.Ok) :
    Calls Tryz.prog 13 #[.slice A fs.length c] w (BoolThen (DefinedP fs) w) := by
  go_enter Tryz.func13, Tryz.ntmps13
  go_wp2
  go_loopw [9] (fun i wr => ∃ k : Nat, k ≤ fs.length ∧ i = .int .i64 k ∧ PartP fs k ∧ Below w.heap.size w wr) (fun i _ => fs.length - (intOf i).toNat)
  case atStart => exact ⟨0, by omega, rfl, partP_zero fs, Below.refl _ _⟩
  case round =>
    obtain ⟨k, hk, rfl, hpart, hb⟩ := hrel
    obtain ⟨wq, rfl⟩ : ∃ wq : World, wq = wr := ⟨_, rfl⟩
    by_cases hlt : k < fs.length
    · obtain ⟨b, off, rfl, hB, hc⟩ := hin k hlt
      have hf : fs[k]? = some fs[k] := List.getElem?_eq_getElem hlt
      obtain ⟨c0, c1, c2, c3, c4⟩ := (hc k _ hf).below hb hB
      have hfok := hok _ (List.getElem_mem hlt)
      have hsz := hb.size
      have hn1 := hfok.name
      have ht1 := hfok.text
      clear hok
      have hHf := hide hf
      clear hf
      generalize hfd : fs[k] = f at *
      have hHfd := hide hfd
      clear hfd
      by_cases g0 : f.kind < 0
      · have d0 : decide (f.kind < 0) = true := by simpa using g0
        clear hc
        go_wp2_with fail
        go_ret
        exact ⟨_, rfl, by simp, hb.alloc hsz _⟩
      have d0 : decide (f.kind < 0) = false := by simpa using g0
      by_cases g1 : 2 < f.kind
      · have d1 : decide (2 < f.kind) = true := by simpa using g1
        clear hc
        go_wp2_with fail
        go_ret
        exact ⟨_, rfl, by simp, hb.alloc hsz _⟩
      have d1 : decide (2 < f.kind) = false := by simpa using g1
      by_cases g2 : (1048576 : Int) < (f.name.size : Int)
      · have d2 : decide ((1048576 : Int) < (f.name.size : Int)) = true := by simpa using g2
        clear hc
        go_wp2_with fail
        go_ret
        exact ⟨_, rfl, by simp, hb.alloc hsz _⟩
      have d2 : decide ((1048576 : Int) < (f.name.size : Int)) = false := by simpa using g2
      by_cases g3 : (1048576 : Int) < (f.text.size : Int)
      · have d3 : decide ((1048576 : Int) < (f.text.size : Int)) = true := by simpa using g3
        clear hc
        go_wp2_with fail
        go_ret
        exact ⟨_, rfl, by simp, hb.alloc hsz _⟩
      have d3 : decide ((1048576 : Int) < (f.text.size : Int)) = false := by simpa using g3
      by_cases g4 : f.name.size = 0
      · have d4 : f.name.toList = [] := toList_nil g4
        clear hc
        go_wp2_with fail
        go_ret
        exact ⟨_, rfl, by simp, hb.alloc hsz _⟩
      have g4' : 0 < f.name.size := by omega
      have d4 : f.name.toList.isEmpty = false := toList_ne g4'
      clear g4
      by_cases g5 : f.name[0] = 45
      · have d5 : ((f.name[0].toNat : Int) == 45) = true := by simp [g5]
        clear hc g5
        go_wp2_with fail
        go_ret
        exact ⟨_, rfl, by simp, hb.alloc hsz _⟩
      have d5 : ((f.name[0].toNat : Int) == 45) = false := by
        have : f.name[0].toNat ≠ 45 := fun e => g5 (by rw [← UInt8.toNat_inj, e]; rfl)
        simp; omega
      have G5 := hide g5
      clear g5
      by_cases g6 : 0 ≤ signOf f.name
      · have d6 : decide (0 ≤ signOf f.name) = true := by simpa using g6
        clear hc
        go_wp2_with (go_at_call 31; refine (sign_any _ _ hn1).mono ?_; rintro e w' ⟨rfl, rfl⟩)
        go_ret
        exact ⟨_, rfl, by simp, hb.alloc hsz _⟩
      have d6 : decide (0 ≤ signOf f.name) = false := by simpa using g6
      go_wp2_with (go_at_call 31; refine (sign_any _ _ hn1).mono ?_; rintro e w' ⟨rfl, rfl⟩)
      have g7 : f.Fine := ⟨g0, g1, by omega, by omega, g4', fun _ => G5.out, g6⟩
      clear d0 d1 d2 d3 d4 d5 d6 g0 g1 g2 g3 g6 G5 ht1 hfok
      obtain ⟨wo, hwo⟩ : ∃ wo : World, wo = wq.alloc (.cells f.val 36) := ⟨_, rfl⟩
      have hbo : Below w.heap.size w wo := by rw [hwo]; exact hb.alloc hsz _
      have hzo : wo.heap.size = wq.heap.size + 1 := by rw [hwo]; simp
      have hco : wo.cell? ⟨wq.heap.size, 0, none⟩ = some (.string f.name) := by rw [hwo]; simp [FD.val]
      have HW := hide hwo
      have HZ := hide hzo
      have hzo' : wq.heap.size < wo.heap.size := by omega
      clear hzo
      rw [show wq.alloc (Obj.cells #[Value.string f.name, Value.int IntKind.i64 f.kind, Value.bool f.on, Value.int IntKind.i64 f.num, Value.string f.text] 36) = wo from hwo.symm]
      clear hwo
      go_loopw [55] (fun i wi => ∃ j : Nat, j ≤ k ∧ i = .int .i64 j ∧ NoName fs f.name j ∧ Below wo.heap.size wo wi) (fun i _ => k - (intOf i).toNat)
      case atStart => exact ⟨0, by omega, rfl, fun j _ hj => absurd hj (by omega), Below.refl _ _⟩
      case round =>
        obtain ⟨j, hj, rfl, hno, hbi⟩ := hrel
        have hbw : Below w.heap.size w wr := below_call hbo (by omega) hbi
        have hcf : wr.cell? ⟨wq.heap.size, 0, none⟩ = some (.string f.name) := (hbi.cell hzo').trans hco
        by_cases hjk : j < k
        · have hfj : fs[j]? = some fs[j] := List.getElem?_eq_getElem (by omega)
          obtain ⟨e0, e1, e2, e3, e4⟩ := (hc j _ hfj).below hbw hB
          have hszi := hbi.size
          have Hj := hide hfj
          have hlq : wq.heap.size < wr.heap.size := by omega
          clear c0 c1 c2 c3 c4 hc hfj hin
          by_cases he : fs[j].name = f.name
          · have hq := str_eqb he
            clear he hno
            go_wp2_with fail
            go_ret
            exact ⟨_, rfl, by simp, hbw.alloc (by omega) _⟩
          · have hq := str_neb he
            have hn : NoName fs f.name (j + 1) := fun i g hi hig => by
              by_cases e : i = j
              · subst e; rw [Hj.out] at hig; cases hig; exact he
              · exact hno i g (by omega) hig
            clear he hno
            go_wp2_with fail
            go_roundw
            case rel => exact ⟨j + 1, by omega, by go_num, hn, hbi.alloc hszi _⟩
            case measure => simp [intOf]; omega
        · obtain rfl : j = k := by omega
          have hp := partP_succ fs j f hHf.out hpart g7 hno
          clear c0 c1 c2 c3 c4 hc hin hno hpart
          go_wp2_with fail
          go_roundw
          case rel => exact ⟨j + 1, by omega, by go_num, hp, hbw⟩
          case measure => simp [intOf]; omega
    · obtain rfl : k = fs.length := by omega
      have hp := partP_all fs hpart
      clear hpart hok hin
      by_cases h100 : fs.length ≤ 100
      · have d : decide ((fs.length : Int) ≤ 100) = true := by simpa using (by omega : (fs.length : Int) ≤ 100)
        go_wp2_with fail
        go_ret
        exact ⟨true, rfl, fun _ => hp h100, hb⟩
      · have d : decide ((fs.length : Int) ≤ 100) = false := by simpa using (by omega : ¬ (fs.length : Int) ≤ 100)
        go_wp2_with fail
        go_ret
        exact ⟨false, rfl, by simp, hb⟩
end Go.Proofs.YtpcmiaablanmeaaGreatDoor
