/- What a rewritten flag means. No function is looked at. -/
import Derived.Test.YtpcmiaablanmeaaGreatDoorRlaws
import Derived.Lib.Strings
namespace Go.Proofs.YtpcmiaablanmeaaGreatDoor
open Go.RowKit

theorem app_data (a b : ByteArray) : (a ++ b).data.toList = a.data.toList ++ b.data.toList := by
  rw [ByteArray.data_append, Array.toList_append]
theorem app_size (a b : ByteArray) : (a ++ b).size = a.size + b.size := ByteArray.size_append

theorem data_same {s t : ByteArray} (h : s.data.toList = t.data.toList) : s = t := by
  cases s; cases t; congr; exact Array.toList_inj.1 h

theorem at_list {s : ByteArray} {i : Nat} (h : i < s.size) {c : UInt8} (hc : s.data.toList[i]? = some c) : s[i] = c := by
  rw [Array.getElem?_toList] at hc
  have h4 : s.data[i]? = some s[i] := Array.getElem?_eq_getElem h
  rw [h4] at hc
  exact Option.some.inj hc
theorem list_at {s : ByteArray} {i : Nat} (h : i < s.size) : s.data.toList[i]? = some s[i] := by
  rw [Array.getElem?_toList]
  exact Array.getElem?_eq_getElem h

theorem ext_list (s : ByteArray) (i j : Nat) : (s.extract i j).data.toList = (s.data.toList.drop i).take (j - i) := by
  have := Go.Lib.extract_toList s i j
  rw [ByteArray.toList_eq] at this
  exact this
theorem size_list (s : ByteArray) : s.data.toList.length = s.size := Array.length_toList

/-- A head of one hyphen or two. -/
def Head (h : ByteArray) : Prop := h = ⟨#[45]⟩ ∨ h = ⟨#[45, 45]⟩

/-- Behind a head a body is a flag's. -/
theorem body_mk {hd b : ByteArray} (hh : Head hd) (h0 : 0 < b.size) (h45 : b[0] ≠ 45) (h61 : b[0] ≠ 61) : Body (hd ++ b) b := by
  have hb0 : b.data.toList[0]? = some b[0] := list_at h0
  rcases hh with rfl | rfl
  · have hsz : (⟨#[45]⟩ ++ b : ByteArray).size = 1 + b.size := app_size _ _
    have hl : (⟨#[45]⟩ ++ b : ByteArray).data.toList = 45 :: b.data.toList := app_data _ _
    have h1 : 1 < (⟨#[45]⟩ ++ b : ByteArray).size := by omega
    refine ⟨h1, at_list (by omega) (by rw [hl]; rfl), .inl ⟨?_, ?_⟩, h0, h45, h61⟩
    · rw [at_list h1 (c := b[0]) (by rw [hl]; exact hb0)]
      exact h45
    · refine data_same ?_
      rw [ext_list, hl, hsz, List.drop_succ_cons, List.drop_zero, show 1 + b.size - 1 = b.size by omega, ← size_list, List.take_length]
  · have hsz : (⟨#[45, 45]⟩ ++ b : ByteArray).size = 2 + b.size := app_size _ _
    have hl : (⟨#[45, 45]⟩ ++ b : ByteArray).data.toList = 45 :: 45 :: b.data.toList := app_data _ _
    have h1 : 1 < (⟨#[45, 45]⟩ ++ b : ByteArray).size := by omega
    refine ⟨h1, at_list (by omega) (by rw [hl]; rfl), .inr ⟨at_list h1 (by rw [hl]; rfl), by omega, ?_⟩, h0, h45, h61⟩
    refine data_same ?_
    rw [ext_list, hl, hsz, List.drop_succ_cons, List.drop_succ_cons, List.drop_zero, show 2 + b.size - 2 = b.size by omega, ← size_list, List.take_length]

/-- The sign's place in a text that is put together. -/
theorem sign_app {b v : ByteArray} (h : signOf b < 0) : signOf (b ++ ⟨#[61]⟩ ++ v) = b.size := by
  have hn : b.data.toList.findIdx? (· == 61) = none := by
    unfold signOf at h
    cases hx : b.data.toList.findIdx? (· == 61) with
    | none => rfl
    | some i => rw [hx] at h; simp at h; omega
  have hl : (b ++ ⟨#[61]⟩ ++ v).data.toList = b.data.toList ++ 61 :: v.data.toList := by
    rw [app_data, app_data, List.append_assoc]; rfl
  have e : (b ++ ⟨#[61]⟩ ++ v).data.toList.findIdx? (· == 61) = some b.size := by
    rw [hl, List.findIdx?_append, hn, List.findIdx?_cons]
    simp
  unfold signOf
  rw [e]

theorem cut_app {b v : ByteArray} : (b ++ ⟨#[61]⟩ ++ v).extract 0 b.size = b ∧ (b ++ ⟨#[61]⟩ ++ v).extract (b.size + 1) (b ++ ⟨#[61]⟩ ++ v).size = v := by
  have hl : (b ++ ⟨#[61]⟩ ++ v).data.toList = b.data.toList ++ 61 :: v.data.toList := by
    rw [app_data, app_data, List.append_assoc]; rfl
  have hsz : (b ++ ⟨#[61]⟩ ++ v).size = b.size + 1 + v.size := by rw [app_size, app_size]; rfl
  refine ⟨data_same ?_, data_same ?_⟩
  · rw [ext_list, hl, List.drop_zero, Nat.sub_zero, ← size_list, List.take_left']
    rfl
  · have hl' : (b ++ ⟨#[61]⟩ ++ v).data.toList = (b.data.toList ++ [61]) ++ v.data.toList := by rw [hl, List.append_assoc]; rfl
    rw [ext_list, hl', hsz, List.drop_left' (by rw [List.length_append, size_list]; rfl), show b.size + 1 + v.size - (b.size + 1) = v.size by omega, ← size_list v, List.take_length]

/-- Before its first sign a text has none; it begins as the whole does. -/
theorem sign_cut {b : ByteArray} {k : Nat} (h : signOf b = k) : signOf (b.extract 0 k) < 0 ∧ k < b.size := by
  unfold signOf at h
  cases hx : b.data.toList.findIdx? (· == 61) with
  | none => rw [hx] at h; simp at h
  | some i =>
    rw [hx] at h
    have hik : i = k := by simp at h; omega
    subst hik
    rw [List.findIdx?_eq_some_iff_getElem] at hx
    obtain ⟨hi, _, hno⟩ := hx
    rw [size_list] at hi
    refine ⟨?_, hi⟩
    have e : (b.extract 0 i).data.toList.findIdx? (· == 61) = none := by
      rw [List.findIdx?_eq_none_iff]
      intro x hxm
      obtain ⟨j, hj, rfl⟩ := List.mem_iff_getElem.1 hxm
      rw [ext_list, List.drop_zero, Nat.sub_zero, List.length_take, size_list] at hj
      have hji : j < i := by omega
      have h1 := hno j hji
      have h2 : (b.extract 0 i).data.toList[j]'(by rw [ext_list, List.drop_zero, Nat.sub_zero, List.length_take, size_list]; omega) = b.data.toList[j]'(by rw [size_list]; omega) := by
        have h3 : (b.extract 0 i).data.toList[j]? = b.data.toList[j]? := by
          rw [ext_list, List.drop_zero, Nat.sub_zero, List.getElem?_take_of_lt hji]
        have a1 := List.getElem?_eq_getElem (l := (b.extract 0 i).data.toList) (i := j) (by rw [ext_list, List.drop_zero, Nat.sub_zero, List.length_take, size_list]; omega)
        have a2 := List.getElem?_eq_getElem (l := b.data.toList) (i := j) (by rw [size_list]; omega)
        rw [a1, a2] at h3
        exact Option.some.inj h3
      simp only [h2]
      simpa using h1
    unfold signOf
    rw [e]
    decide

/-- What goes before is read as it was; then a flag. -/
theorem emit_one {fs cur : List FD} {hd b : ByteArray} {i : Nat} {v : ByteArray} {M ss : List ByteArray} {f f' : FD} {ss1 : List ByteArray} {curF : List FD} {ssF restF : List ByteArray} {endF : Bool} (hh : Head hd) (h0 : 0 < b.size) (h45 : b[0] ≠ 45) (h61 : b[0] ≠ 61) (hm : Means fs b M i v M) (hf : cur[i]? = some f) (ht : Takes f v f') (hs : SeenStep ss f.name ss1)
    (next : Reads fs (cur.set i f') M ss1 curF ssF restF endF) : Reads fs cur ((hd ++ b) :: M) ss curF ssF restF endF :=
  .step cur _ b M ss i v M f f' ss1 _ _ _ _ (body_mk hh h0 h45 h61) hm hf ht hs next
theorem emit_two {fs cur : List FD} {hd b : ByteArray} {i : Nat} {v : ByteArray} {M ss : List ByteArray} {f f' : FD} {ss1 : List ByteArray} {curF : List FD} {ssF restF : List ByteArray} {endF : Bool} (hh : Head hd) (h0 : 0 < b.size) (h45 : b[0] ≠ 45) (h61 : b[0] ≠ 61) (hm : Means fs b (v :: M) i v M) (hf : cur[i]? = some f) (ht : Takes f v f') (hs : SeenStep ss f.name ss1)
    (next : Reads fs (cur.set i f') M ss1 curF ssF restF endF) : Reads fs cur ((hd ++ b) :: v :: M) ss curF ssF restF endF :=
  .step cur _ b (v :: M) ss i v M f f' ss1 _ _ _ _ (body_mk hh h0 h45 h61) hm hf ht hs next
end Go.Proofs.YtpcmiaablanmeaaGreatDoor
