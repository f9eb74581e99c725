import Derived.Test.Qxb6619459aJoinWalk
import Derived.Lib.Strings
namespace Go.Proofs.Qxb6619459a.JoinWalk
open Go.ChangeShapes Go.WideShapes Go.ChangeAt Go.RowKit
set_option linter.unusedVariables false

theorem list_beq (a b : ByteArray) : (a.toList == b.toList) = decide (a = b) := by
  rw [Bool.eq_iff_iff]
  simp only [beq_iff_eq, decide_eq_true_eq, ByteArray.toList_eq]
  exact ⟨ba_ext, fun h => by rw [h]⟩

theorem jk_inj (p k1 k2 : ByteArray) (h : jk p k1 = jk p k2) : k1 = k2 := by
  apply ba_ext
  have := congrArg (fun s : ByteArray => s.data.toList) h
  simp only [jk_data] at this
  split at this
  · exact this
  · simpa using this

theorem jk_beq (p k1 k2 : ByteArray) : ((jk p k1).toList == (jk p k2).toList) = (k1.toList == k2.toList) := by
  rw [list_beq, list_beq, Bool.eq_iff_iff]
  simp only [decide_eq_true_eq]
  exact ⟨jk_inj p k1 k2, fun h => by rw [h]⟩

/-- the joined path, path not empty: its bytes -/
theorem jk_some (p k : ByteArray) (h : p.toList.isEmpty = false) : (jk p k).data.toList = p.data.toList ++ 46 :: k.data.toList := by
  rw [jk_data, if_neg]
  intro e
  rw [(empty_iff p).2 e] at h
  cases h

theorem byte_at (s : ByteArray) (l : List UInt8) (e : s.data.toList = l) (j : Nat) (hj : j < s.size) (x : UInt8) (hx : l[j]? = some x) : s[j] = x := by
  have h : s.data.toList[j]? = some x := by rw [e]; exact hx
  have h2 : s.data.toList[j]? = some s[j] := by
    rw [List.getElem?_eq_getElem (by rw [← size_data]; exact hj)]; rfl
  rw [h] at h2
  exact (Option.some.inj h2).symm

theorem dot_at (p k : ByteArray) (h : p.toList.isEmpty = false) (hj : p.size < (jk p k).size) : (((jk p k)[p.size].toNat : Int) == 46) = true := by
  rw [byte_eq, byte_at _ _ (jk_some p k h) p.size hj 46 (by rw [size_data, List.getElem?_append_right (Nat.le_refl _)]; simp)]
  rfl

theorem no_dot (p k : ByteArray) (h : p.toList.isEmpty = false) (hd : hasDotB k.data.toList = false) (j : Nat) (hj : j < (jk p k).size) (hpj : p.size < j) : (((jk p k)[j].toNat : Int) == 46) = false := by
  rw [byte_eq]
  have e := jk_some p k h
  have hl : (jk p k).size = p.size + 1 + k.size := by rw [size_data, e, size_data, size_data]; simp; omega
  have hx : (p.data.toList ++ 46 :: k.data.toList)[j]? = k.data.toList[j - p.size - 1]? := by
    rw [List.getElem?_append_right (by rw [← size_data]; omega), ← size_data, show j - p.size = (j - p.size - 1) + 1 from by omega, List.getElem?_cons_succ]
    simp
  have hlt : j - p.size - 1 < k.data.toList.length := by rw [← size_data]; omega
  rw [byte_at _ _ e j hj (k.data.toList[j - p.size - 1]) (by rw [hx, List.getElem?_eq_getElem hlt])]
  unfold hasDotB at hd
  rw [List.any_eq_false] at hd
  have := hd _ (List.getElem_mem hlt)
  simpa using this

theorem jk_none (p k : ByteArray) (h : p.toList.isEmpty = true) : jk p k = k := by
  unfold jk; rw [if_pos h]

theorem cut_left (p k : ByteArray) (h : p.toList.isEmpty = false) : (((jk p k).extract 0 p.size).toList == p.toList) = true := by
  rw [beq_iff_eq, ByteArray.toList_eq, ByteArray.toList_eq]
  have e := jk_some p k h
  have : ((jk p k).extract 0 p.size).data.toList = ((jk p k).data.toList.take p.size) := by simp
  rw [this, e, size_data]; simp

theorem cut_right (p k : ByteArray) (h : p.toList.isEmpty = false) : (((jk p k).extract (p.size + 1) (jk p k).size).toList == k.toList) = true := by
  rw [beq_iff_eq, ByteArray.toList_eq, ByteArray.toList_eq]
  have e := jk_some p k h
  have : ((jk p k).extract (p.size + 1) (jk p k).size).data.toList = ((jk p k).data.toList.drop (p.size + 1)) := by
    rw [Lib.extract_data]; exact List.take_of_length_le (by rw [List.length_drop, ← size_data]; omega)
  rw [this, e, size_data, ← List.drop_drop]; simp

set_option maxHeartbeats 400000 in
theorem sepDot (p k1 k2 X1 X2 : ByteArray) (w : World) (ha : p.size ≤ 262144) (hb : k1.size ≤ 262144) (hc : k2.size ≤ 262144) (h1 : X1.size ≤ 600000) (h2 : X2.size ≤ 600000) (H1 : Hid (X1 = jk p k1)) (H2 : Hid (X2 = jk p k2))
    (hbeq : (X1.toList == X2.toList) = (k1.toList == k2.toList)) (HD : Hid (hasDotB k1.data.toList = true)) :
    Calls Try.prog 5 #[.string p, .string k1, .string k2] w fun e w' => e = .returned (.bool true) ∧ Grown w w' := by
  go_enter Try.func5, Try.ntmps5
  go_wp2_with (go_at_call 12; go_in)
  go_wp2_with fail
  refine (join_to p k1 X1 _ (by omega) (by omega) H1).mono ?_
  rintro e w1 ⟨rfl, rfl⟩
  go_wp2_with fail
  refine (join_to p k2 X2 _ (by omega) (by omega) H2).mono ?_
  rintro e w1 ⟨rfl, rfl⟩
  go_wp2_with fail
  refine (hasDot_any k1 _ (by omega)).mono ?_
  rw [HD.out]
  rintro e w1 ⟨rfl, rfl⟩
  go_wp2_with fail
  go_ret
  exact ⟨rfl, Grown.refl _⟩

set_option maxHeartbeats 400000 in
theorem sepRoot (p k1 k2 X2 : ByteArray) (w : World) (ha : p.size ≤ 262144) (hb : k1.size ≤ 262144) (hc : k2.size ≤ 262144) (h2 : X2.size ≤ 600000) (H1 : Hid (k1 = jk p k1)) (H2 : Hid (X2 = jk p k2))
    (hbeq : (k1.toList == X2.toList) = (k1.toList == k2.toList)) (HD : Hid (hasDotB k1.data.toList = false)) (hp : p.toList.isEmpty = true) :
    Calls Try.prog 5 #[.string p, .string k1, .string k2] w fun e w' => e = .returned (.bool true) ∧ Grown w w' := by
  go_enter Try.func5, Try.ntmps5
  go_wp2_with (go_at_call 12; go_in)
  go_wp2_with fail
  refine (join_to p k1 k1 _ (by omega) (by omega) H1).mono ?_
  rintro e w1 ⟨rfl, rfl⟩
  go_wp2_with fail
  refine (join_to p k2 X2 _ (by omega) (by omega) H2).mono ?_
  rintro e w1 ⟨rfl, rfl⟩
  go_wp2_with fail
  refine (hasDot_any k1 _ (by omega)).mono ?_
  rw [HD.out]
  rintro e w1 ⟨rfl, rfl⟩
  go_wp2_with fail
  go_ret
  exact ⟨by simp, Grown.refl _⟩

set_option maxHeartbeats 400000 in
theorem sepCut (p k1 k2 X1 X2 : ByteArray) (w : World) (ha : p.size ≤ 262144) (hb : k1.size ≤ 262144) (hc : k2.size ≤ 262144) (h1 : X1.size ≤ 600000) (h2 : X2.size ≤ 600000) (H1 : Hid (X1 = jk p k1)) (H2 : Hid (X2 = jk p k2))
    (hbeq : (X1.toList == X2.toList) = (k1.toList == k2.toList)) (HD : Hid (hasDotB k1.data.toList = false)) (hp : p.toList.isEmpty = false)
    (hz : p.size < X1.size) (hat : ((X1[p.size].toNat : Int) == 46) = true) (HN : Hid (∀ (j : Nat) (hj : j < X1.size), p.size < j → ((X1[j].toNat : Int) == 46) = false))
    (c1 : ((X1.extract 0 p.size).toList == p.toList) = true) (c2 : ((X1.extract (p.size + 1) X1.size).toList == k1.toList) = true) :
    Calls Try.prog 5 #[.string p, .string k1, .string k2] w fun e w' => e = .returned (.bool true) ∧ Grown w w' := by
  have HA : Hid (((X1[p.size].toNat : Int) == 46) = true) := hat
  clear hat
  go_enter Try.func5, Try.ntmps5
  go_wp2_with (go_at_call 12; go_in)
  go_wp2_with fail
  refine (join_to p k1 X1 _ (by omega) (by omega) H1).mono ?_
  rintro e w1 ⟨rfl, rfl⟩
  go_wp2_with fail
  refine (join_to p k2 X2 _ (by omega) (by omega) H2).mono ?_
  rintro e w1 ⟨rfl, rfl⟩
  go_wp2_with fail
  refine (hasDot_any k1 _ (by omega)).mono ?_
  rw [HD.out]
  rintro e w1 ⟨rfl, rfl⟩
  go_wp2_with fail
  refine (lastDot_at X1 p.size _ (by omega) hz HA.out HN).mono ?_
  rintro e w1 ⟨rfl, rfl⟩
  go_wp2_with fail
  go_ret
  exact ⟨by simp, Grown.refl _⟩

theorem sepMain (p k1 k2 : ByteArray) (w : World) (ha : p.size ≤ 262144) (hb : k1.size ≤ 262144) (hc : k2.size ≤ 262144) :
    Calls Try.prog 5 #[.string p, .string k1, .string k2] w fun e w' => e = .returned (.bool true) ∧ Grown w w' := by
  have hbeq := jk_beq p k1 k2
  have hs1 := jk_size p k1
  have hs2 := jk_size p k2
  cases hd : hasDotB k1.data.toList
  · cases hp : p.toList.isEmpty
    · have hz : p.size < (jk p k1).size := by rw [size_data, size_data, jk_some p k1 hp]; simp
      exact sepCut p k1 k2 _ _ w ha hb hc (by omega) (by omega) rfl rfl hbeq hd hp hz (dot_at p k1 hp hz) (no_dot p k1 hp hd) (cut_left p k1 hp) (cut_right p k1 hp)
    · have e := jk_none p k1 hp
      rw [e] at hbeq
      exact sepRoot p k1 k2 _ w ha hb hc (by omega) e.symm rfl hbeq hd hp
  · exact sepDot p k1 k2 _ _ w ha hb hc (by omega) (by omega) rfl rfl hbeq hd

/-- the ways on which a test ahead of the work says no -/
theorem sepOut (a b c : ByteArray) (w : World) (h0 : a.size ≤ maxLen) (h1 : b.size ≤ maxLen) (h2 : c.size ≤ maxLen)
    (h : 262144 < a.size ∨ 262144 < b.size ∨ 262144 < c.size) :
    Calls Try.prog 5 #[.string a, .string b, .string c] w fun e w' => e = .returned (.bool true) ∧ Grown w w' := by
  unfold maxLen at h0 h1 h2
  by_cases c1 : 1048576 < a.size
  · go_enter Try.func5, Try.ntmps5
    go_wp2
    go_ret
    exact ⟨rfl, Grown.refl _⟩
  by_cases c2 : 1048576 < b.size
  · go_enter Try.func5, Try.ntmps5
    go_wp2
    go_ret
    exact ⟨rfl, Grown.refl _⟩
  by_cases c4 : 1048576 < a.size + b.size
  · go_enter Try.func5, Try.ntmps5
    go_wp2
    go_ret
    exact ⟨rfl, Grown.refl _⟩
  by_cases c3 : 1048576 < c.size
  · go_enter Try.func5, Try.ntmps5
    go_wp2
    go_ret
    exact ⟨rfl, Grown.refl _⟩
  by_cases c5 : 1048576 < a.size + b.size + c.size
  · go_enter Try.func5, Try.ntmps5
    go_wp2
    go_ret
    exact ⟨rfl, Grown.refl _⟩
  by_cases c6 : 262144 < a.size
  · clear h
    go_enter Try.func5, Try.ntmps5
    go_wp2
    go_ret
    exact ⟨rfl, Grown.refl _⟩
  by_cases c7 : 262144 < b.size
  · clear h
    go_enter Try.func5, Try.ntmps5
    go_wp2
    go_ret
    exact ⟨rfl, Grown.refl _⟩
  have c8 : 262144 < c.size := by omega
  clear h
  go_enter Try.func5, Try.ntmps5
  go_wp2
  go_ret
  exact ⟨rfl, Grown.refl _⟩

theorem sepAll (a0 : ByteArray) (a1 : ByteArray) (a2 : ByteArray) (w0 : a0.size ≤ maxLen) (w1 : a1.size ≤ maxLen) (w2 : a2.size ≤ maxLen) (w : World) :
    Calls Try.prog 5 #[.string a0, .string a1, .string a2] w fun e w' => e = .returned (.bool true) ∧ Grown w w' := by
  by_cases h : 262144 < a0.size ∨ 262144 < a1.size ∨ 262144 < a2.size
  · exact sepOut a0 a1 a2 w w0 w1 w2 h
  · exact sepMain a0 a1 a2 w (by omega) (by omega) (by omega)
end Go.Proofs.Qxb6619459a.JoinWalk
