/- The values' own Set, at a text that they take. -/
import Derived.Test.YtpcmiaablanmeaaGreatDoorPUint
import Derived.Test.YtpcmiaablanmeaaGreatDoorMem
namespace Go.Proofs.YtpcmiaablanmeaaGreatDoor
open Go.RowKit

theorem strip_size (s : ByteArray) : (stripN s).size ≤ s.size := by
  unfold stripN
  split
  · rw [ByteArray.size_extract]; omega
  · exact Nat.le_refl _

theorem neg_wrap (V : Nat) (h : V ≤ 9223372036854775808) : wrap64 (-wrap64 (V : Int)) = -(V : Int) := by unfold wrap64; omega

set_option maxHeartbeats 1000000 in
set_option maxRecDepth 100000 in
theorem parseInt_ok (s : ByteArray) (n : Int) (w : World) (hs : s.size ≤ 16777216) (h : NumOk s n) :
    Calls Tryz.prog 162 #[.string s, .int .i64 0, .int .i64 64] w fun e w' => e = .returned (.tuple #[.int .i64 n, .nilIface]) ∧ Below w.heap.size w w' := by
  obtain ⟨_, base, u, V, hb, hT, hn⟩ := h
  have hVle := hT.le
  have h0 : 0 < s.size := by
    have h1 := hT.some
    have h2 := strip_size s
    have h3 : 0 < (stripN s).size := by
      rcases hb with ⟨_, _, rfl⟩ | ⟨_, _, _, _, rfl⟩ | ⟨_, _, _, _, rfl⟩
      · rw [ByteArray.size_extract] at h1; omega
      · rw [ByteArray.size_extract] at h1; omega
      · exact h1
    omega
  have e0 : s.toList.isEmpty = false := toList_ne h0
  have HU := hide (parseUint_ok (stripN s) base u V w (Nat.le_trans (strip_size s) hs) hb hT)
  clear hb hT
  have Hst : Hid (stripN s = if minusB s || plusB s then s.extract 1 s.size else s) := rfl
  have hm : minusB s = ((s[0].toNat : Int) == 45) := hasB_lt h0 _
  have hp : plusB s = ((s[0].toNat : Int) == 43) := hasB_lt h0 _
  rw [hm] at hn
  rw [hm, hp] at Hst
  clear hm hp
  have hs1 : 1 ≤ s.size := h0
  have hVi : (V : Int) ≤ 9223372036854775808 := by omega
  cases z : ((s[0].toNat : Int) == 45) with
  | true =>
    rw [z] at hn Hst
    have hn' : n = -(V : Int) := by rcases hn with h | h; exact h.2; exact absurd h.1 (by simp)
    have z' : ((s[0].toNat : Int) == 43) = false := by simp at z ⊢; omega
    have hst : stripN s = s.extract 1 s.size := Hst.out
    rw [hst] at HU
    subst hn'
    clear hst Hst hn
    go_enter Tryz.func162, Tryz.ntmps162
    go_wp2_with (first | (go_at_call 163; refine HU.out.mono ?_; rintro e w1 ⟨rfl, hb1⟩; have hb1 := hide hb1) | go_in)
    go_ret2
    exact ⟨by rw [neg_wrap V hVle]; rfl, hb1.out⟩
  | false =>
    rw [z] at hn Hst
    obtain ⟨_, hn', hV⟩ : _ ∧ n = V ∧ V < 9223372036854775808 := by rcases hn with h | h; exact absurd h.1 (by simp); exact h
    have hVi' : (V : Int) < 9223372036854775808 := by omega
    have ha0 : 0 ≤ (V : Int) := by omega
    subst hn'
    clear hn hVi hVle hV
    generalize (V : Int) = a at *
    cases z2 : ((s[0].toNat : Int) == 43) with
    | true =>
      have hst : stripN s = s.extract 1 s.size := by have := Hst.out; rw [z2] at this; exact this
      rw [hst] at HU
      clear hst Hst
      go_enter Tryz.func162, Tryz.ntmps162
      go_wp2_with (first | (go_at_call 163; refine HU.out.mono ?_; rintro e w1 ⟨rfl, hb1⟩; have hb1 := hide hb1) | go_in)
      go_ret2
      exact ⟨by go_num, hb1.out⟩
    | false =>
      have hst : stripN s = s := by have := Hst.out; rw [z2] at this; exact this
      rw [hst] at HU
      clear hst Hst
      go_enter Tryz.func162, Tryz.ntmps162
      go_wp2_with (first | (go_at_call 163; refine HU.out.mono ?_; rintro e w1 ⟨rfl, hb1⟩; have hb1 := hide hb1) | go_in)
      go_ret2
      exact ⟨by go_num, hb1.out⟩

theorem parseIntP_ok (s : ByteArray) (n : Int) (w : World) (hs : s.size ≤ 16777216) (h : NumOk s n) :
    Calls Tryz.prog 160 #[.string s, .int .i64 0, .int .i64 64] w fun e w' => e = .returned (.tuple #[.int .i64 n, .nilIface]) ∧ Below w.heap.size w w' := by
  have HU := hide (parseInt_ok s n w hs h)
  clear h
  go_enter Tryz.func160, Tryz.ntmps160
  go_wp2_with (first | (go_at_call 162; refine HU.out.mono ?_; rintro e w1 ⟨rfl, hb1⟩; have hb1 := hide hb1) | go_in)
  go_ret2
  exact ⟨rfl, hb1.out⟩

/-- What a Set leaves: the variable holds the value; no error; all else stands. -/
def SetPost (v : Nat) (T : TypeId) (x : Value) (w : World) (e : Ending) (w' : World) : Prop := e = .returned .nilIface ∧ Blk w' v T #[x] ∧ Off (fun i => i = v) w w'

theorem intSet_ok (v : Nat) (T : TypeId) (x0 : Value) (s : ByteArray) (n : Int) (w : World) (hs : s.size ≤ 16777216) (h : NumOk s n) (hv : Blk w v T #[x0]) :
    Calls Tryz.prog 158 #[.pointer (some ⟨v, 0, none⟩), .string s] w (SetPost v T (.int .i64 n) w) := by
  have HU := hide (parseIntP_ok s n w hs h)
  have Hv := hide hv
  clear h hv
  go_enter Tryz.func158, Tryz.ntmps158
  go_wp2_with (first | (go_at_call 160; refine HU.out.mono ?_; rintro e w1 ⟨rfl, hb1⟩; have ho := hide (off_of_below (S := fun _ => False) hb1); have hb := hide (Hv.out.off ho.out (fun h => h)); have hc := hb.out.cell 0; have hf := hb.out.frozen 0; clear hb1) | go_in)
  go_ret
  exact ⟨rfl, hb.out.set_ 0 _, (ho.out.weaken (S' := fun i => i = v) (fun i _ h => h.elim)).setCell (p := ⟨v, 0, none⟩) (fun _ => rfl) _⟩

theorem boolSet_ok (v : Nat) (T : TypeId) (x0 : Value) (s : ByteArray) (b : Bool) (w : World) (h : Lib.parseBool s.data.toList = some b) (hv : Blk w v T #[x0]) :
    Calls Tryz.prog 133 #[.pointer (some ⟨v, 0, none⟩), .string s] w (SetPost v T (.bool b) w) := by
  have HU := hide (Tryz.strconv_ParseBool s b h w)
  have Hv := hide hv
  have hc := hv.cell 0
  have hf := hv.frozen 0
  clear h hv
  go_enter Tryz.func133, Tryz.ntmps133
  go_wp2_with (first | (go_at_call 135; refine HU.out.mono ?_; rintro e w1 ⟨rfl, rfl⟩) | go_in)
  go_ret
  exact ⟨rfl, Hv.out.set_ 0 _, (Off.refl (fun i => i = v) w1).setCell (p := ⟨v, 0, none⟩) (fun _ => rfl) _⟩

theorem textSet_ok (v : Nat) (T : TypeId) (x0 : Value) (s : ByteArray) (w : World) (hv : Blk w v T #[x0]) :
    Calls Tryz.prog 166 #[.pointer (some ⟨v, 0, none⟩), .string s] w (SetPost v T (.string s) w) := by
  have Hv := hide hv
  have hc := hv.cell 0
  have hf := hv.frozen 0
  clear hv
  go_enter Tryz.func166, Tryz.ntmps166
  go_wp2
  go_ret
  exact ⟨rfl, Hv.out.set_ 0 _, (Off.refl (fun i => i = v) w).setCell (p := ⟨v, 0, none⟩) (fun _ => rfl) _⟩
end Go.Proofs.YtpcmiaablanmeaaGreatDoor
