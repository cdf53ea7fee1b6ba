/- laws.FnExactCount: it returns true. -/
import Derived.Test.YtpcmiaablanmeaaDoorCnt
import Derived.Test.YtpcmiaablanmeaaDoorSParse
import Derived.Test.YtpcmiaablanmeaaDoorDefined
namespace Go.Proofs.YtpcmiaablanmeaaDoor
open Go.RowKit

/-- The law's walk: true, and nothing that was there has turned. -/
def CountLaw (w : World) (e : Ending) (w' : World) : Prop := e = .returned (.bool true) ∧ Below w.heap.size w w'

theorem str_self (s : ByteArray) : (s.toList == s.toList) = true := by simp

set_option maxHeartbeats 2000000 in
set_option maxRecDepth 100000 in
theorem law_count (A : Option Addr) (c : Nat) (fs : List FD) (Ax : Option Addr) (cx : Nat) (args : List ByteArray) (i : Int) (w : World) (hl : fs.length ≤ 9223372036854775807) (hlc : fs.length ≤ c) (hin : FlagsIn w w.heap.size A fs) (hnil : A = none → c = 0) (hok : ∀ f ∈ fs, f.Ok) (ht : TabOk w)
    (hxl : args.length ≤ 9223372036854775807) (hxc : args.length ≤ cx) (hx : TextsIn w w.heap.size Ax args) (hxn : Ax = none → cx = 0) (hi0 : -9223372036854775808 ≤ i) (hi1 : i ≤ 9223372036854775807) :
    Calls Tryd.prog 3 #[.slice A fs.length c, .slice Ax args.length cx, .int .i64 i] w (CountLaw w) := by
  have Hin := hide hin
  have Hok := hide hok
  have Ht := hide ht
  have Hx := hide hx
  have Hnil := hide hnil
  have Hxn := hide hxn
  clear hin hok ht hx hnil hxn
  by_cases hf1 : fits1 fs = true
  · go_enter Tryd.func3, Tryd.ntmps3
    go_wp2_with (go_at_call 4; refine (zzFits1_any A c fs _ hl Hin.out Hok.out).mono ?_; rintro e w1 ⟨rfl, hb1⟩)
    have Hx1 := hide ((Hx.out.below hb1).mono hb1.size)
    have Hb1 := hide hb1
    clear hb1
    refine (zzFits3_any Ax cx args w1 hxl Hx1.out).mono ?_
    rintro e w2 ⟨b3, rfl, rfl⟩
    cases b3 with
    | false =>
      go_wp2_with fail
      go_ret
      exact ⟨rfl, Hb1.out⟩
    | true =>
      go_wp2_with fail
      refine (short_any Ax cx args w1 hxl Hx1.out).mono ?_
      rintro e w2 ⟨b, rfl, hsh, rfl⟩
      have Hsh := hide hsh
      clear hsh
      cases b with
      | false =>
        go_wp2_with fail
        go_ret
        exact ⟨rfl, Hb1.out⟩
      | true =>
        have Hsz := hide (Hsh.out rfl)
        clear Hsh
        have Hin1 := hide ((Hin.out.below Hb1.out).more Hb1.out.size)
        go_wp2_with fail
        refine (defined_any A c fs w1 hl hlc Hin1.out Hok.out).mono ?_
        rintro e w2 ⟨b, rfl, hD, hb2⟩
        have HD := hide hD
        have Hb2 := hide (below_call Hb1.out Hb1.out.size hb2)
        clear hD hb2
        cases b with
        | false =>
          go_wp2_with fail
          go_ret
          exact ⟨rfl, Hb2.out⟩
        | true =>
          have hDf := hide (HD.out rfl)
          have Hin2 := hide ((Hin.out.below Hb2.out).more Hb2.out.size)
          have Hx2 := hide ((Hx.out.below Hb2.out).mono Hb2.out.size)
          clear HD Hin1 Hx1 Hb1
          go_wp2_with fail
          refine (sparse_any A c fs Ax cx args w2 hDf.out.len hlc Hin2.out Hnil.out Hok.out Hx2.out hxc Hsz.out.2 Hsz.out.1).mono ?_
          rintro e w3 ⟨fa, fn, fc, na, nn, nc, ra, rn, rc, st, bad, said, ended, rfl, hb3, hst⟩
          have Hst := hide hst
          have hb3z := hide hb3.size
          have Hb3 := hide (below_call Hb2.out Hb2.out.size hb3)
          clear hst hb3
          have ht3 := hide (Ht.out.below Hb3.out Ht.out.lt)
          have Hin3 := hide ((Hin.out.below Hb3.out).more Hb3.out.size)
          have Hx3 := hide ((Hx.out.below Hb3.out).mono Hb3.out.size)
          have hz3 := Hb3.out.size
          have hz23 := hb3z.out
          clear Hin2 Hx2 Hb2
          cases said with
          | false =>
            unfold readCells
            go_wp2_with fail
            go_ret
            exact ⟨rfl, Hb3.out.alloc hz3 _⟩
          | true =>
            by_cases hs0 : st = 0
            · have Hst0 := hide (fun _ : True => Hst.out hs0)
              subst hs0
              clear Hst
              obtain ⟨cur, ss, L, hR, _, _, _, rfl, rfl, htx⟩ := Hst0.out trivial
              have HR := hide hR
              have Htx := hide htx
              clear hR htx Hst0
              obtain ⟨W, hW⟩ : ∃ W, W = w3.alloc (.cells (readCells (.slice fa fn fc) (.slice na ss.length nc) (.slice ra L.length rc) 0 bad true ended) 29) := ⟨_, rfl⟩
              have HW : Hid (Blk W w3.heap.size 29 (readCells (.slice fa fn fc) (.slice na ss.length nc) (.slice ra L.length rc) 0 bad true ended)) := hide (by rw [hW]; exact Blk.new _ _ _)
              have HbW : Hid (Below w.heap.size w W) := hide (by rw [hW]; exact Hb3.out.alloc hz3 _)
              have HwW : Hid (Off (fun _ => False) w3 W) := hide (by rw [hW]; exact (Off.refl _ w3).alloc _)
              unfold readCells at hW
              unfold readCells
              go_upto_region 6 with fail
              rw [← hW]
              clear hW
              have HinW := hide ((Hin.out.below HbW.out).more HbW.out.size)
              have HxW := hide ((Hx.out.below HbW.out).mono HbW.out.size)
              have HtW := hide (Ht.out.below HbW.out Ht.out.lt)
              have HC := hide (count_any A c fs Ax cx args i W HinW.out Hok.out hDf.out HtW.out HxW.out Hxn.out (fun s hs => Nat.le_trans (Hsz.out.2 s hs) (by omega)) (Nat.le_trans Hsz.out.1 (by omega)) HR.out)
              have HtxW := hide (Htx.out.off HwW.out hz23 (fun _ _ h => h))
              have hwg : w2.heap.size ≤ W.heap.size := Nat.le_trans hz23 HwW.out.size
              have g5 : W.cell? ⟨w3.heap.size, 5, none⟩ = some (.bool true) := HW.out.cell 5
              have g3 : W.cell? ⟨w3.heap.size, 3, none⟩ = some (.int .i64 0) := HW.out.cell 3
              have hWz := HbW.out.size
              clear Hin3 Hx3 ht3 Htx Hsz hz3 hz23
              generalize w3.heap.size = g at *
              by_cases h0 : i < 0
              · have d0 : decide (0 ≤ i) = false := by simp; omega
                have hA : argOf L i = ⟨#[]⟩ := if_neg (by omega)
                have he : ((⟨#[]⟩ : ByteArray).toList == (⟨#[]⟩ : ByteArray).toList) = true := str_self _
                go_wp2_with (first | (go_at_call 9; refine HC.out.mono ?_; rintro e w5 ⟨rfl, hb5⟩; have Hb5 := hide hb5; have h5 := hide (HW.out.off (off_of_below (S := fun _ => False) hb5) (fun h => h)); have c1 : w5.cell? ⟨g, 1, none⟩ = some (.slice na ss.length nc) := h5.out.cell 1; have c2 : w5.cell? ⟨g, 2, none⟩ = some (.slice ra L.length rc) := h5.out.cell 2; clear hb5) | fail)
                go_ret
                exact ⟨rfl, HbW.out.trans (Hb5.out.mono hWz)⟩
              · obtain ⟨k, rfl⟩ := Int.eq_ofNat_of_zero_le (show 0 ≤ i by omega)
                have d0 : decide ((0 : Int) ≤ (k : Int)) = true := by simp
                by_cases hk : k < L.length
                · have hA : argOf L (k : Int) = L[k] := by
                    unfold argOf
                    rw [if_pos ⟨by omega, by omega⟩, Int.toNat_natCast, List.getElem?_eq_getElem hk]
                    rfl
                  obtain ⟨tb, off, rfl, htl, htc⟩ := HtxW.out k hk
                  have ht0 := hide (htc k L[k] (List.getElem?_eq_getElem hk))
                  have htb : tb < W.heap.size := by omega
                  have d1 : decide (k < L.length) = true := by simp; omega
                  clear htc
                  go_wp2_with (first | (go_at_call 9; refine HC.out.mono ?_; rintro e w5 ⟨rfl, hb5⟩; have Hb5 := hide hb5; have h5 := hide (HW.out.off (off_of_below (S := fun _ => False) hb5) (fun h => h)); have c1 : w5.cell? ⟨g, 1, none⟩ = some (.slice na ss.length nc) := h5.out.cell 1; have c2 : w5.cell? ⟨g, 2, none⟩ = some (.slice (some ⟨tb, off, none⟩) L.length rc) := h5.out.cell 2; have c0 : w5.cell? ⟨tb, off + k, none⟩ = some (.string L[k]) := (hb5.cell (p := ⟨tb, off + k, none⟩) htb).trans ht0.out; clear hb5) | fail)
                  go_ret
                  exact ⟨rfl, HbW.out.trans (Hb5.out.mono hWz)⟩
                · have hA : argOf L (k : Int) = ⟨#[]⟩ := if_neg (by omega)
                  have d1 : decide (k < L.length) = false := by simp; omega
                  go_wp2_with (first | (go_at_call 9; refine HC.out.mono ?_; rintro e w5 ⟨rfl, hb5⟩; have Hb5 := hide hb5; have h5 := hide (HW.out.off (off_of_below (S := fun _ => False) hb5) (fun h => h)); have c1 : w5.cell? ⟨g, 1, none⟩ = some (.slice na ss.length nc) := h5.out.cell 1; have c2 : w5.cell? ⟨g, 2, none⟩ = some (.slice ra L.length rc) := h5.out.cell 2; clear hb5) | fail)
                  go_ret
                  exact ⟨rfl, HbW.out.trans (Hb5.out.mono hWz)⟩
            · have q0 : (st == 0) = false := by simpa using hs0
              have q1 : (st != 0) = true := by rw [bne, q0]; rfl
              clear hs0 Hst
              unfold readCells
              go_wp2_with fail
              go_ret
              exact ⟨rfl, Hb3.out.alloc hz3 _⟩
  · have hf1' : fits1 fs = false := by simpa using hf1
    clear hf1
    go_enter Tryd.func3, Tryd.ntmps3
    go_wp2_with (go_at_call 4; refine (zzFits1_any A c fs _ hl Hin.out Hok.out).mono ?_; rintro e w1 ⟨rfl, hb1⟩)
    go_ret
    exact ⟨rfl, by assumption⟩
end Go.Proofs.YtpcmiaablanmeaaDoor
