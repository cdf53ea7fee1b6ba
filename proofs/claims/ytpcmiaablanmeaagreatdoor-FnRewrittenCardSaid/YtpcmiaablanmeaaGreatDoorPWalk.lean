/- FlagSet.parseOne on a flag that is read: a contract. -/
import Derived.Test.YtpcmiaablanmeaaGreatDoorPMove
import Derived.Test.YtpcmiaablanmeaaGreatDoorPInt
import Derived.StillTailTactics
import Derived.Deep.RegionWith
import Derived.Deep.QuietTactic
import Derived.BigQuiet
import Derived.Deep.CutRange
import Derived.Deep.Cut
import Derived.Deep.CutBlock
import Derived.Deep.DeepCutAuto
import Derived.Laws.EntriesVeiled
import Derived.Stop.Asserts
namespace Go.Proofs.YtpcmiaablanmeaaGreatDoor
open Go.RowKit Go.Maps

theorem assert_bool (a : Addr) (w : World) : (Instr.typeAssert (.iface 139 (.pointer (some a))) 92 122 true).run Tryz.prog w = .ok (.tuple #[.iface 139 (.pointer (some a)), .bool true]) w := by kernel_rfl
theorem assert_int (a : Addr) (w : World) : (Instr.typeAssert (.iface 141 (.pointer (some a))) 92 122 true).run Tryz.prog w = .ok (.tuple #[.nilIface, .bool false]) w := run_typeAssert_lacksB Tryz.underlying122 (by kernel_rfl) (by kernel_rfl) _ _ w
theorem assert_string (a : Addr) (w : World) : (Instr.typeAssert (.iface 143 (.pointer (some a))) 92 122 true).run Tryz.prog w = .ok (.tuple #[.nilIface, .bool false]) w := run_typeAssert_lacksB Tryz.underlying122 (by kernel_rfl) (by kernel_rfl) _ _ w


theorem method_isBool (a : Addr) (w : World) : (method 319 139 (.pointer (some a)) "IsBoolFlag").run Tryz.prog w = .ok (132, .pointer (some a)) w := by kernel_rfl
theorem method_boolSet (a : Addr) (w : World) : (method 319 139 (.pointer (some a)) "Set").run Tryz.prog w = .ok (133, .pointer (some a)) w := by kernel_rfl
theorem method_intSet (a : Addr) (w : World) : (method 319 141 (.pointer (some a)) "Set").run Tryz.prog w = .ok (158, .pointer (some a)) w := by kernel_rfl
theorem method_stringSet (a : Addr) (w : World) : (method 319 143 (.pointer (some a)) "Set").run Tryz.prog w = .ok (166, .pointer (some a)) w := by kernel_rfl
theorem isBool_any (a : Addr) (w : World) : Calls Tryz.prog 132 #[.pointer (some a)] w fun e w' => e = .returned (.bool true) ∧ w = w' := by
  go_enter Tryz.func132, Tryz.ntmps132
  go_wp2
  go_ret
  exact ⟨rfl, rfl⟩

/-- The name's first byte of s behind d hyphens. -/
structure Dash (s b : ByteArray) (d : Nat) : Prop where
  one : 1 ≤ d
  two : d ≤ 2
  lt : d < s.size
  eq : b = s.extract d s.size

theorem byte_45 {c : UInt8} (h : ((c.toNat : Int) == 45) = true) : c = 45 := by
  have h1 : (c.toNat : Int) = 45 := by simpa using h
  have h2 : c.toNat = 45 := by omega
  exact UInt8.toNat_inj.1 (by rw [h2]; rfl)
theorem byte_no {c : UInt8} {k : Nat} (hk : k < 256) (h : c ≠ UInt8.ofNat k) : ((c.toNat : Int) == (k : Int)) = false := by
  rw [beq_eq_false_iff_ne]
  intro e
  exact h (UInt8.toNat_inj.1 (by rw [UInt8.toNat_ofNat']; omega))

theorem Body.dash {s b : ByteArray} (h : Body s b) (h1 : 1 < s.size) {m : Bool} (hm : m = ((s[1].toNat : Int) == 45)) : (m = false → Dash s b 1) ∧ (m = true → 2 < s.size ∧ Dash s b 2) := by
  obtain ⟨_, _, hd, hb, _⟩ := h
  rcases hd with ⟨hn, rfl⟩ | ⟨hy, h2, rfl⟩
  · refine ⟨fun _ => ⟨by omega, by omega, by omega, rfl⟩, fun e => ?_⟩
    exact absurd (byte_45 (by rw [← hm]; exact e)) hn
  · refine ⟨fun e => ?_, fun _ => ⟨h2, by omega, by omega, by omega, rfl⟩⟩
    rw [hm, hy] at e
    simp at e

/-- The name, and the value behind an equals sign if there is one. -/
def Parted (b nm v : ByteArray) (has : Bool) : Prop := (has = true ∧ ∃ k : Nat, signOf b = k ∧ nm = b.extract 0 k ∧ v = b.extract (k + 1) b.size) ∨ (has = false ∧ signOf b < 0 ∧ nm = b ∧ v = ⟨#[]⟩)

/-- What a parted body means. -/
theorem Parted.means {fs : List FD} {b nm val : ByteArray} {has : Bool} {rest : List ByteArray} {i : Nat} {v : ByteArray} {rest' : List ByteArray} (hp : Parted b nm val has) (hm : Means fs b rest i v rest') :
    findOf fs nm = i ∧ ((has = true ∧ val = v ∧ rest' = rest) ∨ (has = false ∧ (∀ f, fs[i]? = some f → f.kind = 0) ∧ v = trueText ∧ rest' = rest) ∨ (has = false ∧ (∀ f, fs[i]? = some f → f.kind ≠ 0) ∧ rest = v :: rest')) := by
  rcases hp with ⟨rfl, k, hk, rfl, rfl⟩ | ⟨rfl, hk, rfl, rfl⟩
  · rcases hm with ⟨k', hk', h2, h3, h4⟩ | ⟨h1, _⟩ | ⟨h1, _⟩
    · have e : k' = k := by omega
      subst e
      exact ⟨h2, .inl ⟨rfl, h3.symm, h4⟩⟩
    · omega
    · omega
  · rcases hm with ⟨k', hk', h2, h3, h4⟩ | ⟨h1, h2, h3, h4, h5⟩ | ⟨h1, h2, h3, h4⟩
    · omega
    · exact ⟨h2, .inr (.inl ⟨rfl, h3, h4, h5⟩)⟩
    · exact ⟨h2, .inr (.inr ⟨rfl, h3, h4⟩)⟩

theorem find_name (fs : List FD) (nm : ByteArray) {i : Nat} {f : FD} (h : findOf fs nm = i) (hf : fs[i]? = some f) : f.name = nm := by
  unfold findOf at h
  cases hx : fs.findIdx? (fun f => decide (f.name = nm)) with
  | none => rw [hx] at h; simp at h
  | some j =>
    rw [hx] at h
    have e : j = i := by simp at h; omega
    subst e
    rw [List.findIdx?_eq_some_iff_getElem] at hx
    obtain ⟨hj, hn, _⟩ := hx
    rw [List.getElem?_eq_getElem hj] at hf
    cases hf
    simpa using hn

theorem Parted.le {b nm v : ByteArray} {has : Bool} (h : Parted b nm v has) : nm.size ≤ b.size := by
  rcases h with ⟨_, k, _, rfl, _⟩ | ⟨_, _, rfl, _⟩
  · rw [ByteArray.size_extract]; omega
  · exact Nat.le_refl _

/-- What the assertion to boolFlag gives. -/
def Fv (e : Ent) (c12 c13 : Value) : Prop := ∃ q : Bool, c13 = .bool q ∧ (q = true → e.f.kind = 0 ∧ c12 = .iface 139 (.pointer (some ⟨e.v, 0, none⟩))) ∧ (q = false → e.f.kind ≠ 0)

theorem Takes.bool {f f' : FD} {v : ByteArray} (h : Takes f v f') (hk : f.kind = 0) : ∃ b, Lib.parseBool v.data.toList = some b ∧ (f.kind = 0 → f'.cur = .bool b) := by
  rcases h with ⟨_, b, hb, rfl⟩ | ⟨h, _⟩ | ⟨h, _⟩
  · exact ⟨b, hb, fun _ => by simp [FD.cur, hk]⟩
  · omega
  · exact absurd hk h
theorem Takes.int {f f' : FD} {v : ByteArray} (h : Takes f v f') (hk : f.kind = 1) : ∃ n, NumOk v n ∧ ((-9223372036854775808 ≤ n ∧ n ≤ 9223372036854775807) ∧ (f.kind = 1 → f'.cur = .int .i64 n)) := by
  rcases h with ⟨h, _⟩ | ⟨_, n, hn, h0, h1, rfl⟩ | ⟨_, h, _⟩
  · omega
  · exact ⟨n, hn, ⟨h0, h1⟩, fun _ => by simp [FD.cur, hk]⟩
  · exact absurd hk h
theorem Takes.text {f f' : FD} {v : ByteArray} (h : Takes f v f') (h0 : f.kind ≠ 0) (h1 : f.kind ≠ 1) : f'.cur = .string v := by
  rcases h with ⟨h, _⟩ | ⟨h, _⟩ | ⟨_, _, rfl⟩
  · exact absurd h h0
  · exact absurd h h1
  · simp [FD.cur, h0, h1]

/-- What is left to do behind the name. -/
def Cases (fs : List FD) (i : Nat) (has : Bool) (val v : ByteArray) (rest rest' : List ByteArray) : Prop :=
  (has = true ∧ val = v ∧ rest' = rest) ∨ (has = false ∧ (∀ f, fs[i]? = some f → f.kind = 0) ∧ v = trueText ∧ rest' = rest) ∨ (has = false ∧ (∀ f, fs[i]? = some f → f.kind ≠ 0) ∧ rest = v :: rest')
theorem Cases.yes {fs : List FD} {i : Nat} {val v : ByteArray} {rest rest' : List ByteArray} (h : Cases fs i true val v rest rest') : val = v ∧ rest' = rest := by
  rcases h with ⟨_, h1, h2⟩ | ⟨h, _⟩ | ⟨h, _⟩
  · exact ⟨h1, h2⟩
  · cases h
  · cases h
theorem Cases.bare {fs : List FD} {i : Nat} {val v : ByteArray} {rest rest' : List ByteArray} (h : Cases fs i false val v rest rest') (hk : ¬ ∀ f, fs[i]? = some f → f.kind ≠ 0) : v = trueText ∧ rest' = rest := by
  rcases h with ⟨h, _⟩ | ⟨_, _, h⟩ | ⟨_, h, _⟩
  · cases h
  · exact h
  · exact absurd h hk
theorem Cases.next {fs : List FD} {i : Nat} {val v : ByteArray} {rest rest' : List ByteArray} (h : Cases fs i false val v rest rest') (hk : ¬ ∀ f, fs[i]? = some f → f.kind = 0) : rest = v :: rest' := by
  rcases h with ⟨h, _⟩ | ⟨_, h, _⟩ | ⟨_, _, h⟩
  · cases h
  · exact absurd h hk
  · exact h

theorem ite_pred1 (c : Nat) (x y : Option Addr) : (if c - 1 = 1 then x else y) = if c = 2 then x else y := by
  by_cases h2 : c = 2
  · subst h2; rfl
  · rw [if_neg h2, if_neg (by omega)]

theorem nodup_len {α : Type} [DecidableEq α] : ∀ (l m : List α), l.Nodup → (∀ x ∈ l, x ∈ m) → l.length ≤ m.length
  | [], _, _, _ => Nat.zero_le _
  | a :: r, m, hn, hs => by
    rw [List.nodup_cons] at hn
    have ha := hs a (by simp)
    have h1 := nodup_len r (m.erase a) hn.2 (fun x hx => (List.mem_erase_of_ne (fun e => hn.1 (by rw [← e]; exact hx))).2 (hs x (by simp [hx])))
    rw [List.length_erase_of_mem ha] at h1
    have h2 : 0 < m.length := List.length_pos_of_mem ha
    rw [List.length_cons]
    omega

theorem ak_few {w : World} {B sb fb : Nat} {es0 es : List Ent} {u act mv sl vb vn vt : Value} {A : Option Addr} {L : List ByteArray} {c : Nat} {ak : List (ByteArray × Nat)} {ss : List ByteArray} (h : PS w B sb fb es0 es u act mv sl vb vn vt A L c ak ss) : ak.length ≤ 100 := by
  have hn : (ak.map (·.1)).Nodup := h.seen.nodup_iff.2 h.nodup
  have hk : (kpsOf es).length ≤ 100 := by unfold kpsOf; rw [List.length_map, List.length_reverse]; exact h.few
  have hsub : ∀ x ∈ ak.map (·.1), x ∈ (kpsOf es).map (·.1) := fun x hx => by
    obtain ⟨p, hp, rfl⟩ := List.mem_map.1 hx
    exact List.mem_map_of_mem (h.akP p hp)
  have := nodup_len _ _ hn hsub
  rw [List.length_map, List.length_map] at this
  omega

def StepPost (w : World) (B sb fb : Nat) (es0 es : List Ent) (u mv sl vb vn vt : Value) (rest' : List ByteArray) (ss1 : List ByteArray) (e : Ending) (w' : World) : Prop :=
  ∃ act' A' c' ak', e = .returned (.tuple #[.bool true, .nilIface]) ∧ PS w' B sb fb es0 es u act' mv sl vb vn vt A' rest' c' ak' ss1 ∧ Off (fun j => B ≤ j) w w'

set_option maxHeartbeats 4000000 in
set_option maxRecDepth 100000 in
theorem parseOne_step (w : World) (B sb fb : Nat) (es0 es : List Ent) (u act mv sl vb vn vt : Value) (A : Option Addr) (s : ByteArray) (rest : List ByteArray) (c : Nat) (ak : List (ByteArray × Nat)) (ss ss1 : List ByteArray) (fs : List FD) (b : ByteArray) (i : Nat) (e : Ent) (v : ByteArray) (rest' : List ByteArray) (f' f0 : FD)
    (h : PS w B sb fb es0 es u act mv sl vb vn vt A (s :: rest) c ak ss) (hsz : s.size ≤ 9223372036854775807) (hvz : v.size ≤ 16777216) (hb : Body s b) (hm : Means fs b rest i v rest') (he : es[i]? = some e) (hf : fs[i]? = some f0) (hfe : f0.name = e.f.name ∧ f0.kind = e.f.kind) (ht : Takes e.f v f') (hs : SeenStep ss e.f.name ss1) :
    Calls Tryz.prog 52 #[.pointer (some ⟨fb, 0, none⟩)] w (StepPost w B sb fb es0 (es.set i ⟨f', e.p, e.v, e.d⟩) u mv sl vb vn vt rest' ss1) := by
  obtain ⟨ab, off, rfl, c0⟩ := h.args.cell
  have f5 : w.cell? ⟨fb, 5, none⟩ = some (.slice (some ⟨ab, off, none⟩) (s :: rest).length c) := h.set.fset.cell 5
  have z5 := h.set.fset.frozen 5
  have hcap := h.cap
  simp only [List.length_cons] at hcap f5
  have hlp : ((((rest.length + 1 : Nat) : Int)) == 0) = false := by simp; omega
  have h1 : 1 < s.size := hb.1
  have h45 : ((s[0].toNat : Int) == 45) = true := by rw [hb.2.1]; rfl
  have h45' : ((s[0].toNat : Int) != 45) = false := by rw [bne, h45]; rfl
  have HP := hide h
  have Hb := hide hb
  have Hm := hide hm
  have He := hide he
  have Ht := hide ht
  have Hs := hide hs
  have Hf := hide hf
  have Hfe := hide hfe
  clear h hb hm he ht hs hf hfe h45
  go_enter Tryz.func52, Tryz.ntmps52
  go_upto_region 7 with fail
  go_cut [39] from 37 to 39 (fun c39 w1 => w = w1 ∧ ∃ m, c39 = .bool m ∧ m = ((s[1].toNat : Int) == 45))
  case first =>
    go_wp2_with fail
    go_meet
    case rel => exact ⟨rfl, _, rfl, rfl⟩
  case rest =>
    obtain ⟨rfl, m, rfl, hm⟩ := hcut
    have hd := Hb.out.dash h1 hm
    have HD := hide hd
    clear hm hd
    go_upto_if 39 with fail
    go_cut [5] from 40 to 52 (fun c5 w1 => w = w1 ∧ ∃ d : Nat, c5 = .int .i64 d ∧ Dash s b d)
    case first =>
      cases m with
      | false =>
        go_wp2_with fail
        go_meet
        case rel => exact ⟨rfl, 1, rfl, HD.out.1 trivial⟩
      | true =>
        have h2 : ((s.size : Int) == 2) = false := by have := (HD.out.2 rfl).1; simp; omega
        go_wp2_with fail
        go_meet
        case rel => exact ⟨rfl, 2, rfl, (HD.out.2 trivial).2⟩
    case rest =>
      obtain ⟨rfl, d, rfl, hD⟩ := hcut
      have hd2 := hD.two
      have hdl := hD.lt
      have hD' := hide hD.eq
      clear hD
      go_upto_region 13 with fail
      rw [← hD'.out]
      obtain ⟨hb0, hb45, hb61⟩ : ∃ hb0 : 0 < b.size, b[0] ≠ 45 ∧ b[0] ≠ 61 := Hb.out.2.2.2
      have n45 : ((b[0].toNat : Int) == 45) = false := byte_no (k := 45) (by omega) hb45
      have n61 : ((b[0].toNat : Int) == 61) = false := byte_no (k := 61) (by omega) hb61
      have hbz : b.size ≤ 9223372036854775807 := by rw [hD'.out, ByteArray.size_extract]; omega
      have nz : ((b.size : Int) == 0) = false := beq_eq_false_iff_ne.2 (by omega)
      have H61 := hide hb61
      clear hb45 hb61 hd2 hdl hD' HD h45' h1
      go_upto_region 16 with fail
      have HP1 := hide HP.out.advance
      obtain ⟨At, hAt⟩ : ∃ At, At = (if c = 1 then some (⟨ab, off, none⟩ : Addr) else some ⟨ab, off + 1, none⟩) := ⟨_, rfl⟩
      rw [← hAt] at HP1 ⊢
      clear hAt c0 f5 z5 n45 n61
      have ho1 := hide ((Off.refl (fun j => B ≤ j) w).setCell (p := ⟨fb, 5, none⟩) (fun _ => HP.out.set.fsetB) (.slice At rest.length (c - 1)))
      clear HP
      generalize w.setCell ⟨fb, 5, none⟩ (.slice At rest.length (c - 1)) = w1 at *
      go_upto_block 0 with fail
      go_cut [6, 7, 8] (fun c6 c7 c8 wx => w1 = wx ∧ ∃ nm val has, c6 = .string nm ∧ c7 = .bool has ∧ c8 = .string val ∧ Parted b nm val has)
      case first =>
        go_wp2_with fail
        go_loop [6, 7, 8, 9] (fun c6 c7 c8 c9 => ∃ k : Nat, 1 ≤ k ∧ k ≤ b.size ∧ c6 = .string b ∧ c7 = .bool false ∧ c8 = .string ⟨#[]⟩ ∧ c9 = .int .i64 k ∧ NoSign b k) (fun _ _ _ c9 => b.size - (intOf c9).toNat)
        case atStart => exact ⟨1, Nat.le_refl _, hb0, rfl, rfl, rfl, rfl, fun j hj _ => (by have e0 : j = 0 := (by omega); subst e0; exact H61.out)⟩
        case round =>
          obtain ⟨k, hk1, hk, rfl, rfl, rfl, rfl, hno⟩ := hrel
          by_cases hlt : k < b.size
          · by_cases h61 : b[k] = 61
            · have hbq : ((b[k].toNat : Int) == 61) = true := by simp [h61]
              have hH := hide (signOf_hit b k hlt h61 hno)
              clear h61 hno
              go_wp2_with fail
              go_meet
              case rel => exact ⟨rfl, b.extract 0 k, b.extract (k + 1) b.size, true, rfl, rfl, rfl, .inl ⟨rfl, k, hH.out, rfl, rfl⟩⟩
            · have hbq : ((b[k].toNat : Int) == 61) = false := byte_no (k := 61) (by omega) h61
              have hn := hide (show NoSign b (k + 1) from fun j hj hjs => by
                by_cases e : j = k
                · subst e; exact h61
                · exact hno j (by omega) hjs)
              clear h61 hno
              go_wp2_with fail
              go_round
              case rel => exact ⟨k + 1, by omega, by omega, rfl, rfl, rfl, by go_num, hn.out⟩
              case measure => simp [intOf]; omega
          · have hH := hide (signOf_none b (fun j hj => hno j (by omega) hj))
            clear hno
            go_wp2_with fail
            go_meet
            case rel => exact ⟨rfl, b, ⟨#[]⟩, false, rfl, rfl, rfl, .inr ⟨rfl, by rw [hH.out]; decide, rfl, rfl⟩⟩
      case rest =>
        obtain ⟨rfl, nm, val, has, rfl, rfl, rfl, hp⟩ := hcut
        obtain ⟨hfi, hcase⟩ := hp.means Hm.out
        have hnm : e.f.name = nm := Hfe.out.1.symm.trans (find_name fs nm hfi Hf.out)
        have hem : e ∈ es := List.mem_of_getElem? He.out
        have hnz : nm.size ≤ b.size := hp.le
        have hmax : nm.size ≤ maxLen := by unfold maxLen; omega
        have hkp := kps_at HP1.out.names hem
        rw [hnm] at hkp
        have hl1 := HP1.out.set.map.look_ok nm hmax
        rw [hkp.1, hkp.2] at hl1
        have c4 : w1.cell? ⟨fb, 4, none⟩ = some mv := HP1.out.set.fset.cell 4
        have p2 : w1.cell? ⟨e.p, 2, none⟩ = some (.iface e.f.ifT (.pointer (some ⟨e.v, 0, none⟩))) := (HP1.out.set.flags e hem).cell 2
        have Hcase : Hid (Cases fs i has val v rest rest') := hide hcase
        have Hnm := hide hnm
        have Hem := hide hem
        clear hcase hnm hem hkp hp hfi nz Hm Hb
        go_upto_region 31 with fail
        clear hl1 c4
        go_cut [12, 13] from 124 to 131 (fun c12 c13 wx => w1 = wx ∧ Fv e c12 c13)
        case first =>
          by_cases k0 : e.f.kind = 0
          · have et : e.f.ifT = 139 := by simp [FD.ifT, k0]
            rw [et] at p2
            have HK := hide k0
            clear k0 et
            have ha := assert_bool ⟨e.v, 0, none⟩
            go_wp2_with fail
            go_meet
            case rel => exact ⟨rfl, true, rfl, (fun _ => ⟨HK.out, rfl⟩), (fun h => by cases h)⟩
          · by_cases k1 : e.f.kind = 1
            · have et : e.f.ifT = 141 := by simp [FD.ifT, k1]
              rw [et] at p2
              have HK := hide k0
              clear k0 k1 et
              have ha := assert_int ⟨e.v, 0, none⟩
              go_wp2_with fail
              go_meet
              case rel => exact ⟨rfl, false, rfl, (fun h => by cases h), (fun _ => HK.out)⟩
            · have et : e.f.ifT = 143 := by simp [FD.ifT, k0, k1]
              rw [et] at p2
              have HK := hide k0
              clear k0 k1 et
              have ha := assert_string ⟨e.v, 0, none⟩
              go_wp2_with fail
              go_meet
              case rel => exact ⟨rfl, false, rfl, (fun h => by cases h), (fun _ => HK.out)⟩
        case rest =>
          obtain ⟨rfl, q, rfl, hq1, hq0⟩ := hcut
          have Hq1 := hide hq1
          have Hq0 := hide hq0
          clear hq1 hq0 p2
          have hmI := method_isBool ⟨e.v, 0, none⟩
          go_upto_region 32 with fail
          go_cut [136] from 132 to 136 (fun c136 wx => w1 = wx ∧ c136 = .bool q)
          case first =>
            cases q with
            | true =>
              obtain ⟨hk, rfl⟩ := Hq1.out rfl
              clear hk
              go_wp2_with (first | (go_at_call 132; refine (isBool_any _ _).mono ?_; rintro e' w' ⟨rfl, rfl⟩) | fail)
              go_meet
              case rel => exact ⟨rfl, rfl⟩
            | false =>
              go_wp2_with fail
              go_meet
              case rel => exact ⟨rfl, rfl⟩
          case rest =>
            obtain ⟨rfl, rfl⟩ := hcut
            clear hmI
            go_upto_if 136 with fail
            go_cut [8] (fun c8 w3 => ∃ A' c', PS w3 B sb fb es0 (es.set i ⟨f', e.p, e.v, e.d⟩) u act mv sl vb vn vt A' rest' c' ak ss ∧ Off (fun j => B ≤ j) w w3)
            case first =>
              cases q with
              | true =>
                obtain ⟨hk, rfl⟩ := Hq1.out rfl
                obtain ⟨bb, hbb, hfx⟩ := Ht.out.bool hk
                have Hfx := hide hfx
                have HK := hide hk
                have hmS := method_boolSet ⟨e.v, 0, none⟩
                cases has with
                | true =>
                  obtain ⟨hv, hr⟩ := Hcase.out.yes
                  have HB := hide (boolSet_ok e.v e.f.varT e.f.cur val bb w1 (by rw [hv]; exact hbb) (HP1.out.set.vars e Hem.out))
                  have Hr := hide hr
                  clear hfx hk hbb hv hr
                  go_wp2_with (first | (go_at_call 133; refine HB.out.mono ?_; rintro e' w2 ⟨rfl, hb2, ho2⟩; have Hb2 := hide hb2; have Ho2 := hide ho2; clear hb2 ho2) | fail)
                  go_meet
                  case rel => exact ⟨_, _, by rw [Hr.out]; exact HP1.out.put He.out (Takes.name Ht.out) Ho2.out (by rw [Hfx.out HK.out]; exact Hb2.out), ho1.out.trans Ho2.out (fun j _ h => by rw [h]; exact (HP1.out.set.flagsB e Hem.out).2)⟩
                | false =>
                  obtain ⟨hv, hr⟩ := Hcase.out.bare (fun h => h f0 Hf.out (Hfe.out.2.trans hk))
                  have HB := hide (boolSet_ok e.v e.f.varT e.f.cur ⟨#[116, 114, 117, 101]⟩ bb w1 (by rw [hv] at hbb; exact hbb) (HP1.out.set.vars e Hem.out))
                  have Hr := hide hr
                  clear hfx hk hbb hv hr
                  go_wp2_with (first | (go_at_call 133; refine HB.out.mono ?_; rintro e' w2 ⟨rfl, hb2, ho2⟩; have Hb2 := hide hb2; have Ho2 := hide ho2; clear hb2 ho2) | fail)
                  go_meet
                  case rel => exact ⟨_, _, by rw [Hr.out]; exact HP1.out.put He.out (Takes.name Ht.out) Ho2.out (by rw [Hfx.out HK.out]; exact Hb2.out), ho1.out.trans Ho2.out (fun j _ h => by rw [h]; exact (HP1.out.set.flagsB e Hem.out).2)⟩
              | false =>
                have Hk0 := hide (Hq0.out rfl)
                cases has with
                | true =>
                  obtain ⟨hv, hr⟩ := Hcase.out.yes
                  subst hv hr
                  have p2 : w1.cell? ⟨e.p, 2, none⟩ = some (.iface e.f.ifT (.pointer (some ⟨e.v, 0, none⟩))) := (HP1.out.set.flags e Hem.out).cell 2
                  by_cases k1 : e.f.kind = 1
                  · have et : e.f.ifT = 141 := by simp [FD.ifT, k1]
                    rw [et] at p2
                    obtain ⟨n, hn, hfx⟩ := Ht.out.int k1
                    have Hfx := hide hfx
                    have HK := hide k1
                    have hmS := method_intSet ⟨e.v, 0, none⟩
                    have HB := hide (intSet_ok e.v e.f.varT e.f.cur val n _ hvz hn (HP1.out.set.vars e Hem.out))
                    clear hfx k1 et hn
                    go_wp2_with (first | (go_at_call 158; refine HB.out.mono ?_; rintro e' w2 ⟨rfl, hb2, ho2⟩; have Hb2 := hide hb2; have Ho2 := hide ho2; clear hb2 ho2) | fail)
                    go_meet
                    case rel => exact ⟨_, _, HP1.out.put He.out (Takes.name Ht.out) Ho2.out (by rw [Hfx.out.2 HK.out]; exact Hb2.out), ho1.out.trans Ho2.out (fun j _ h => by rw [h]; exact (HP1.out.set.flagsB e Hem.out).2)⟩
                  · have et : e.f.ifT = 143 := by simp [FD.ifT, Hk0.out, k1]
                    rw [et] at p2
                    have hfx := Ht.out.text Hk0.out k1
                    have Hfx := hide hfx
                    have hmS := method_stringSet ⟨e.v, 0, none⟩
                    have HB := hide (textSet_ok e.v e.f.varT e.f.cur val _ (HP1.out.set.vars e Hem.out))
                    clear hfx k1 et
                    go_wp2_with (first | (go_at_call 166; refine HB.out.mono ?_; rintro e' w2 ⟨rfl, hb2, ho2⟩; have Hb2 := hide hb2; have Ho2 := hide ho2; clear hb2 ho2) | fail)
                    go_meet
                    case rel => exact ⟨_, _, HP1.out.put He.out (Takes.name Ht.out) Ho2.out (by rw [Hfx.out]; exact Hb2.out), ho1.out.trans Ho2.out (fun j _ h => by rw [h]; exact (HP1.out.set.flagsB e Hem.out).2)⟩
                | false =>
                  have hr := Hcase.out.next (fun h => Hk0.out (Hfe.out.2.symm.trans (h f0 Hf.out)))
                  subst hr
                  obtain ⟨ab2, off2, rfl, c0⟩ := HP1.out.args.cell
                  have f5 : w1.cell? ⟨fb, 5, none⟩ = some (.slice (some ⟨ab2, off2, none⟩) (v :: rest').length (c - 1)) := HP1.out.set.fset.cell 5
                  have z5 := HP1.out.set.fset.frozen 5
                  have hcap1 := HP1.out.cap
                  simp only [List.length_cons] at hcap1 f5
                  have hl2 : decide ((0 : Int) < (rest'.length : Int) + 1) = true := by simp
                  have hle1 : (1 : Int) ≤ (rest'.length : Int) + 1 := by omega
                  have HPd := hide (HP1.out.keep (Off.refl _ w1).drew)
                  have hod := hide ho1.out.drew
                  clear ho1
                  go_upto_region 42 with fail
                  go_still_tail 15, (by kernel_rfl)
                  change wpList _ _ _ _ _ w1.drew
                  have z5 := HPd.out.set.fset.frozen 5
                  have f5 : w1.drew.cell? ⟨fb, 5, none⟩ = some (.slice (some ⟨ab2, off2, none⟩) (v :: rest').length (c - 1)) := HPd.out.set.fset.cell 5
                  clear HP1 c0
                  generalize w1.drew = wd at *
                  have hp2 := HPd.out.advance
                  rw [ite_pred1] at hp2
                  go_upto_region 43 with fail
                  obtain ⟨At2, hAt2⟩ : ∃ At2, At2 = (if c = 2 then some (⟨ab2, off2, none⟩ : Addr) else some ⟨ab2, off2 + 1, none⟩) := ⟨_, rfl⟩
                  rw [← hAt2] at hp2 ⊢
                  have HP2 := hide hp2
                  have hx2 := hide (hod.out.setCell (p := ⟨fb, 5, none⟩) (fun _ => HPd.out.set.fsetB) (.slice At2 rest'.length (c - 1 - 1)))
                  clear hp2 hAt2 HPd hod f5 z5
                  generalize wd.setCell ⟨fb, 5, none⟩ (.slice At2 rest'.length (c - 1 - 1)) = we at *
                  have p2 : we.cell? ⟨e.p, 2, none⟩ = some (.iface e.f.ifT (.pointer (some ⟨e.v, 0, none⟩))) := (HP2.out.set.flags e Hem.out).cell 2
                  by_cases k1 : e.f.kind = 1
                  · have et : e.f.ifT = 141 := by simp [FD.ifT, k1]
                    rw [et] at p2
                    obtain ⟨n, hn, hfx⟩ := Ht.out.int k1
                    have Hfx := hide hfx
                    have HK := hide k1
                    have hmS := method_intSet ⟨e.v, 0, none⟩
                    have HB := hide (intSet_ok e.v e.f.varT e.f.cur v n _ hvz hn (HP2.out.set.vars e Hem.out))
                    clear hfx k1 et hn
                    go_wp2_with (first | (go_at_call 158; refine HB.out.mono ?_; rintro e' w2 ⟨rfl, hb2, ho2⟩; have Hb2 := hide hb2; have Ho2 := hide ho2; clear hb2 ho2) | fail)
                    go_meet
                    case rel => exact ⟨_, _, HP2.out.put He.out (Takes.name Ht.out) Ho2.out (by rw [Hfx.out.2 HK.out]; exact Hb2.out), hx2.out.trans Ho2.out (fun j _ h => by rw [h]; exact (HP2.out.set.flagsB e Hem.out).2)⟩
                  · have et : e.f.ifT = 143 := by simp [FD.ifT, Hk0.out, k1]
                    rw [et] at p2
                    have hfx := Ht.out.text Hk0.out k1
                    have Hfx := hide hfx
                    have hmS := method_stringSet ⟨e.v, 0, none⟩
                    have HB := hide (textSet_ok e.v e.f.varT e.f.cur v _ (HP2.out.set.vars e Hem.out))
                    clear hfx k1 et
                    go_wp2_with (first | (go_at_call 166; refine HB.out.mono ?_; rintro e' w2 ⟨rfl, hb2, ho2⟩; have Hb2 := hide hb2; have Ho2 := hide ho2; clear hb2 ho2) | fail)
                    go_meet
                    case rel => exact ⟨_, _, HP2.out.put He.out (Takes.name Ht.out) Ho2.out (by rw [Hfx.out]; exact Hb2.out), hx2.out.trans Ho2.out (fun j _ h => by rw [h]; exact (HP2.out.set.flagsB e Hem.out).2)⟩
            case rest =>
              obtain ⟨A', c', HP3, ho3⟩ := hcut
              have HP3 := hide HP3
              have ho3 := hide ho3
              have hfn := hide (Takes.name Ht.out)
              have he3 := hide (show (es.set i ⟨f', e.p, e.v, e.d⟩)[i]? = some (⟨f', e.p, e.v, e.d⟩ : Ent) from List.getElem?_set_self (List.getElem?_eq_some_iff.1 He.out).1)
              have hs3 : Hid (SeenStep ss f'.name ss1) := hide (by rw [hfn.out.1]; exact Hs.out)
              have hn3 : Hid (f'.name = nm) := hide (hfn.out.1.trans Hnm.out)
              have c3 : wc.cell? ⟨fb, 3, none⟩ = some act := HP3.out.set.fset.cell 3
              have z3 := HP3.out.set.fset.frozen 3
              have hflt := HP3.out.set.fset.lt
              have hak : ak.length < 2000 := by
                have h1 := HP3.out.akP
                have h2 : (ak.map (·.1)).Nodup := HP3.out.seen.nodup_iff.2 HP3.out.nodup
                have h3 := ak_few HP3.out
                omega
              have qT : ∀ (w : World) (r : Option Nat), (binOp .eql 79 (.map r) (.map none)).run Tryz.prog w = .ok (.bool r.isNone) w := fun w r => run_eql_map_nil w _ _ _ r Tryz.underlying79
              have ha3 := HP3.out.actM
              rcases ha3 with ⟨rfl, _⟩ | ⟨mb, rfl, _⟩
              · have hmm := @run_makeMap Tryz.prog
                have HP4 := hide HP3.out.make
                have ho4 := hide ((ho3.out.setCell (p := ⟨fb, 3, none⟩) (fun _ => HP3.out.set.fsetB) (.map (some wc.heap.size))).alloc (.map #[] 0))
                clear HP1 ho1 Hcase Hq1 Hq0 Hnm Ht Hs He Hfe Hf Hem HP3 ho3
                go_upto_region 50 with fail
                generalize (wc.setCell ⟨fb, 3, none⟩ (.map (some wc.heap.size))).alloc (.map #[] 0) = w4 at *
                generalize wc.heap.size = mb at *
                have d3 : w4.cell? ⟨fb, 3, none⟩ = some (.map (some mb)) := HP4.out.set.fset.cell 3
                obtain ⟨w5, hrun, hown5, hg5⟩ := ownsMap_put HP4.out.actM.own hak nm hmax e.p
                have HM := hide (HP4.out.mark he3.out hs3.out (by rw [hn3.out]; exact hown5) hg5)
                have ho5 := hide (ho4.out.trans (off_of_grown (S := fun j => B ≤ j) hg5 (fun j _ h => by cases h; exact (HP4.out.actB _ rfl).1)) (fun _ _ h => h))
                clear hown5 hg5 HP4 c3 z3 hflt hmm qT hs3 ho4
                go_wp2_with fail
                go_ret2
                obtain ⟨ak', hPm⟩ := HM.out
                exact ⟨_, _, _, ak', rfl, hPm, ho5.out⟩
              · obtain ⟨w5, hrun, hown5, hg5⟩ := ownsMap_put HP3.out.actM.own hak nm hmax e.p
                have HM := hide (HP3.out.mark he3.out hs3.out (by rw [hn3.out]; exact hown5) hg5)
                have ho5 := hide (ho3.out.trans (off_of_grown (S := fun j => B ≤ j) hg5 (fun j _ h => by cases h; exact (HP3.out.actB _ rfl).1)) (fun _ _ h => h))
                clear hown5 hg5 HP1 ho1 Hcase Hq1 Hq0 Hnm Ht Hs He Hfe Hf Hem HP3 ho3 hs3
                go_wp2_with fail
                go_ret2
                obtain ⟨ak', hPm⟩ := HM.out
                exact ⟨_, _, _, ak', rfl, hPm, ho5.out⟩
end Go.Proofs.YtpcmiaablanmeaaGreatDoor
