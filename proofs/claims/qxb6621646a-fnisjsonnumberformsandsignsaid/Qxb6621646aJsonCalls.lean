import Derived.Test.Qxb6621646aJsonWalk
namespace Go.Proofs.Qxb6621646a.JsonWalk
open Go.ChangeShapes Go.WideShapes Go.ChangeAt Go.RowKit Json
set_option linter.unusedVariables false
set_option linter.unusedSimpArgs false

set_option maxRecDepth 100000 in
set_option maxHeartbeats 1000000 in
theorem isjson_nil (w : World) :
    Calls Try.prog 9 #[.slice none 0 0] w fun e w' => e = .returned (.bool false) ∧ Below w.heap.size w w' := by
  go_enter Try.func9, Try.ntmps9
  go_wp2
  refine wp_loop_rounds 1 ?_
  rw [rounds_succ]
  go_wp2
  go_ret
  exact ⟨rfl, ((Below.refl _ _).alloc (Nat.le_refl _) _).alloc (by simp) _⟩

set_option maxHeartbeats 1000000 in
theorem isjson_any (g n cap : Nat) (zs : List Int) (w : World) (hzl : zs.length = n) (hn : n ≤ 1000000) (hg : g < w.heap.size)
    (hz : ∀ j, j < n → w.cell? ⟨g, j, none⟩ = some (.int .u8 (zs.getD j 0))) (hr : ∀ j, 0 ≤ zs.getD j 0 ∧ zs.getD j 0 ≤ 255) :
    Calls Try.prog 9 #[.slice (some ⟨g, 0, none⟩) n cap] w fun e w' => e = .returned (.bool (P1 zs)) ∧ Below w.heap.size w w' := by
  have HZ := hide hz
  have HR := hide hr
  have HL := hide hzl
  clear hz hr hzl
  go_enter Try.func9, Try.ntmps9
  go_wp2_with fail
  refine (isjson_row g n cap zs w HL.out hn hg HZ.out HR.out).mono ?_
  rintro e w1 ⟨rfl, hb⟩
  go_wp2_with fail
  go_ret
  exact ⟨rfl, hb⟩

set_option maxHeartbeats 1000000 in
theorem accepts_nil (w : World) :
    Calls Try.prog 11 #[.slice none 0 0] w fun e w' => e = .returned (.bool false) ∧ w' = w := by
  go_enter Try.func11, Try.ntmps11
  go_wp2
  refine wp_loop_rounds 1 ?_
  rw [rounds_succ]
  go_wp2
  go_ret
  exact ⟨rfl, rfl⟩

theorem acc_eq (q : Int) : ((((q == 2) || (q == 3)) || (q == 5)) || (q == 8)) = accB q := by
  unfold accB
  rw [Bool.eq_iff_iff]
  simp [or_assoc]

theorem stepB_range (s c : Int) : -1 ≤ stepB s c ∧ stepB s c ≤ 8 := by
  unfold stepB
  (repeat' split) <;> omega

set_option maxHeartbeats 1000000 in
theorem accepts_any (g n cap : Nat) (zs : List Int) (w : World) (hzl : zs.length = n) (hn : n ≤ 1000000)
    (hz : ∀ j, j < n → w.cell? ⟨g, j, none⟩ = some (.int .u8 (zs.getD j 0))) (hr : ∀ j, 0 ≤ zs.getD j 0 ∧ zs.getD j 0 ≤ 255) :
    Calls Try.prog 11 #[.slice (some ⟨g, 0, none⟩) n cap] w fun e w' => e = .returned (.bool (runB 0 zs)) ∧ w' = w := by
  have HZ := hide hz
  have HR := hide hr
  have HL := hide hzl
  clear hz hr hzl
  go_enter Try.func11, Try.ntmps11
  go_wp2
  go_loop [3, 4] (fun s i => ∃ (k : Nat) (q : Int), k ≤ n ∧ i = .int .i64 k ∧ s = .int .i64 q ∧ 0 ≤ q ∧ q ≤ 8 ∧ Hid (runB q (zs.drop k) = runB 0 zs)) (fun _ i => n - (intOf i).toNat)
  case atStart => exact ⟨0, 0, Nat.zero_le _, rfl, rfl, by omega, by omega, rfl⟩
  case round =>
    obtain ⟨k, q, hk, rfl, rfl, hq0, hq1, HRUN⟩ := hrel
    by_cases hlt : k < n
    · have hc := HZ.out k hlt
      have hrr := HR.out k
      have hd := drop_at zs k (by have := HL.out; omega)
      obtain ⟨c, HC⟩ : ∃ c, Hid (c = zs.getD k 0) := ⟨_, rfl⟩
      rw [← HC.out] at hc hrr hd
      have HD : Hid (zs.drop k = c :: zs.drop (k + 1)) := hd
      clear hd
      have hsr := stepB_range q c
      go_wp2_with fail
      refine (step_any q c w hq0 hq1 hrr.1 hrr.2).mono ?_
      rintro e w1 ⟨rfl, rfl⟩
      obtain ⟨t, HT⟩ : ∃ t, Hid (t = stepB q c) := ⟨_, rfl⟩
      rw [← HT.out] at hsr ⊢
      by_cases hneg : t < 0
      · go_wp2_with fail
        go_ret
        refine ⟨ret_bool ?_, rfl⟩
        rw [← HRUN.out, HD.out]
        simp only [runB]
        rw [← HT.out, if_pos hneg]
      · go_wp2_with fail
        go_round
        case rel =>
          refine ⟨k + 1, t, by omega, by go_num, rfl, by omega, by omega, ?_⟩
          show _ = _
          rw [← HRUN.out, HD.out]
          simp only [runB]
          rw [← HT.out, if_neg (by omega)]
        case measure => simp [intOf]; omega
    · have HD : Hid (zs.drop k = []) := List.drop_of_length_le (by have := HL.out; omega)
      go_wp2
      all_goals
        go_ret
        refine ⟨ret_bool ?_, rfl⟩
        rw [← HRUN.out, HD.out]
        simp only [runB]
        rw [← acc_eq]
        all_goals go_light
        all_goals simp [*]
end Go.Proofs.Qxb6621646a.JsonWalk
