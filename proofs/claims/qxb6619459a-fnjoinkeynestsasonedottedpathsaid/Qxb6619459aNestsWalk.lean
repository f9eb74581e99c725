import Derived.Test.Qxb6619459aJoinWalk
namespace Go.Proofs.Qxb6619459a.JoinWalk
open Go.ChangeShapes Go.WideShapes Go.ChangeAt Go.RowKit
set_option linter.unusedVariables false

/-- THE PLAIN LAW: the two nestings and the dotted path are one -/
theorem nests (a b c : ByteArray) (h : a.data.toList = [] ∨ b.data.toList ≠ []) :
    jk (jk a b) c = ⟨(dst a b c 3).2.toArray⟩ ∧ jk a (jk b c) = ⟨(dst a b c 3).2.toArray⟩ := by
  have hd : (⟨(dst a b c 3).2.toArray⟩ : ByteArray).data.toList = (dst a b c 3).2 := by simp
  constructor
  · apply ba_ext
    rw [hd, jk_data, jk_data]
    by_cases ha : a.data.toList = []
    · by_cases hb : b.data.toList = []
      · by_cases hc : c.data.toList = []
        · simp [dst, dstep, ha, hb, hc]
        · simp [dst, dstep, ha, hb, hc]
      · simp [dst, dstep, ha, hb]
    · have hb : b.data.toList ≠ [] := by rcases h with h | h; exact absurd h ha; exact h
      simp [dst, dstep, ha]
  · apply ba_ext
    rw [hd, jk_data, jk_data]
    by_cases ha : a.data.toList = []
    · by_cases hb : b.data.toList = []
      · by_cases hc : c.data.toList = []
        · simp [dst, dstep, ha, hb, hc]
        · simp [dst, dstep, ha, hb, hc]
      · simp [dst, dstep, ha, hb]
    · have hb : b.data.toList ≠ [] := by rcases h with h | h; exact absurd h ha; exact h
      simp [dst, dstep, ha, hb]

set_option maxHeartbeats 400000 in
theorem nestsMain (a b c : ByteArray) (w : World) (ha : a.size ≤ 262144) (hb : b.size ≤ 262144) (hc : c.size ≤ 262144) (h : a.toList.isEmpty = true ∨ b.toList.isEmpty = false) :
    Calls Try.prog 4 #[.string a, .string b, .string c] w fun e w' => e = .returned (.bool true) ∧ Below w.heap.size w w' := by
  obtain ⟨e1, e2⟩ := nests a b c (by
    rcases h with e | e
    · exact Or.inl ((empty_iff a).1 e)
    · exact Or.inr (fun e2 => by rw [(empty_iff b).2 e2] at e; cases e))
  obtain ⟨J, HJ⟩ : ∃ J, Hid (J = jk a b) := ⟨_, rfl⟩
  obtain ⟨K, HK⟩ : ∃ K, Hid (K = jk b c) := ⟨_, rfl⟩
  obtain ⟨D, HD⟩ : ∃ D : ByteArray, Hid (D = ⟨(dst a b c 3).2.toArray⟩) := ⟨_, rfl⟩
  have H1 : Hid (D = jk J c) := by show D = jk J c; rw [HJ.out, HD.out, e1]
  have H2 : Hid (D = jk a K) := by show D = jk a K; rw [HK.out, HD.out, e2]
  have hJ : J.size ≤ 600000 := by have := jk_size a b; rw [HJ.out]; omega
  have hK : K.size ≤ 600000 := by have := jk_size b c; rw [HK.out]; omega
  clear e1 e2
  cases hae : a.toList.isEmpty
  · have hbe : b.toList.isEmpty = false := by
      rcases h with h | h
      · rw [hae] at h; cases h
      · exact h
    clear h
    go_enter Try.func4, Try.ntmps4
    go_wp2_with (go_at_call 9; go_in)
    go_wp2_with fail
    refine (join_to a b J _ (by omega) (by omega) HJ).mono ?_
    rintro e w1 ⟨rfl, rfl⟩
    go_wp2_with fail
    refine (join_to J c D _ (by omega) (by omega) H1).mono ?_
    rintro e w1 ⟨rfl, rfl⟩
    go_wp2_with fail
    refine (join_to b c K _ (by omega) (by omega) HK).mono ?_
    rintro e w1 ⟨rfl, rfl⟩
    go_wp2_with fail
    refine (join_to a K D _ (by omega) (by omega) H2).mono ?_
    rintro e w1 ⟨rfl, rfl⟩
    go_wp2_with fail
    refine (dotted_any a b c _ ha hb hc).mono ?_
    rw [← HD.out]
    rintro e w1 ⟨rfl, hb1⟩
    go_wp2_with fail
    go_ret
    exact ⟨by simp, hb1⟩
  · clear h
    go_enter Try.func4, Try.ntmps4
    go_wp2_with (go_at_call 9; go_in)
    go_wp2_with fail
    refine (join_to a b J _ (by omega) (by omega) HJ).mono ?_
    rintro e w1 ⟨rfl, rfl⟩
    go_wp2_with fail
    refine (join_to J c D _ (by omega) (by omega) H1).mono ?_
    rintro e w1 ⟨rfl, rfl⟩
    go_wp2_with fail
    refine (join_to b c K _ (by omega) (by omega) HK).mono ?_
    rintro e w1 ⟨rfl, rfl⟩
    go_wp2_with fail
    refine (join_to a K D _ (by omega) (by omega) H2).mono ?_
    rintro e w1 ⟨rfl, rfl⟩
    go_wp2_with fail
    refine (dotted_any a b c _ ha hb hc).mono ?_
    rw [← HD.out]
    rintro e w1 ⟨rfl, hb1⟩
    go_wp2_with fail
    go_ret
    exact ⟨by simp, hb1⟩

/-- the ways on which a test ahead of the work says no -/
theorem nestsOut (a b c : ByteArray) (w : World) (h0 : a.size ≤ maxLen) (h1 : b.size ≤ maxLen) (h2 : c.size ≤ maxLen)
    (h : 262144 < a.size ∨ 262144 < b.size ∨ 262144 < c.size ∨ (a.toList.isEmpty = false ∧ b.toList.isEmpty = true)) :
    Calls Try.prog 4 #[.string a, .string b, .string c] w fun e w' => e = .returned (.bool true) ∧ Below w.heap.size w w' := by
  unfold maxLen at h0 h1 h2
  by_cases c1 : 1048576 < a.size
  · go_enter Try.func4, Try.ntmps4
    go_wp2
    go_ret
    exact ⟨rfl, Below.refl _ _⟩
  by_cases c2 : 1048576 < b.size
  · go_enter Try.func4, Try.ntmps4
    go_wp2
    go_ret
    exact ⟨rfl, Below.refl _ _⟩
  by_cases c3 : 1048576 < c.size
  · by_cases c4 : 1048576 < a.size + b.size
    · go_enter Try.func4, Try.ntmps4
      go_wp2
      go_ret
      exact ⟨rfl, Below.refl _ _⟩
    · go_enter Try.func4, Try.ntmps4
      go_wp2
      go_ret
      exact ⟨rfl, Below.refl _ _⟩
  by_cases c4 : 1048576 < a.size + b.size
  · go_enter Try.func4, Try.ntmps4
    go_wp2
    go_ret
    exact ⟨rfl, Below.refl _ _⟩
  by_cases c5 : 1048576 < a.size + b.size + c.size
  · go_enter Try.func4, Try.ntmps4
    go_wp2
    go_ret
    exact ⟨rfl, Below.refl _ _⟩
  by_cases c6 : 262144 < a.size
  · clear h
    go_enter Try.func4, Try.ntmps4
    go_wp2
    go_ret
    exact ⟨rfl, Below.refl _ _⟩
  by_cases c7 : 262144 < b.size
  · clear h
    go_enter Try.func4, Try.ntmps4
    go_wp2
    go_ret
    exact ⟨rfl, Below.refl _ _⟩
  by_cases c8 : 262144 < c.size
  · clear h
    go_enter Try.func4, Try.ntmps4
    go_wp2
    go_ret
    exact ⟨rfl, Below.refl _ _⟩
  have c9 : a.toList.isEmpty = false ∧ b.toList.isEmpty = true := by
    rcases h with h | h | h | h
    · omega
    · omega
    · omega
    · exact h
  clear h
  obtain ⟨c9, c10⟩ := c9
  go_enter Try.func4, Try.ntmps4
  go_wp2
  go_ret
  exact ⟨rfl, Below.refl _ _⟩

theorem nestsAll (a0 : ByteArray) (a1 : ByteArray) (a2 : ByteArray) (w0 : a0.size ≤ maxLen) (w1 : a1.size ≤ maxLen) (w2 : a2.size ≤ maxLen) (w : World) :
    Calls Try.prog 4 #[.string a0, .string a1, .string a2] w fun e w' => e = .returned (.bool true) ∧ Below w.heap.size w w' := by
  by_cases h : 262144 < a0.size ∨ 262144 < a1.size ∨ 262144 < a2.size ∨ (a0.toList.isEmpty = false ∧ a1.toList.isEmpty = true)
  · exact nestsOut a0 a1 a2 w w0 w1 w2 h
  · have h4 : a0.toList.isEmpty = true ∨ a1.toList.isEmpty = false := by
      cases e0 : a0.toList.isEmpty
      · cases e1 : a1.toList.isEmpty
        · exact .inr rfl
        · exact absurd (.inr (.inr (.inr ⟨e0, e1⟩))) h
      · exact .inl rfl
    exact nestsMain a0 a1 a2 w (by omega) (by omega) (by omega) h4
end Go.Proofs.Qxb6619459a.JoinWalk
