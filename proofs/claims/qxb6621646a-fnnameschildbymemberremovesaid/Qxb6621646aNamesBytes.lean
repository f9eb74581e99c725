import Derived.Test.Qxb6621646aNamesFind
namespace Go.Proofs.Qxb6621646a.NamesWalk
open Go.ChangeShapes Go.WideShapes Go.ChangeAt Go.RowKit Go.Maps
set_option linter.unusedVariables false
set_option linter.unusedSimpArgs false

/-- a slice of strings that came in, its first n elements -/
def StrRow (w : World) (a : Option Addr) (n : Nat) (ss : List ByteArray) : Prop :=
  0 < n → ∃ b off, a = some ⟨b, off, none⟩ ∧ ∀ i, i < n → w.cell? ⟨b, off + i, none⟩ = some (.string (ss.getD i ByteArray.empty))

theorem find_call_yes (N M : Nat) (ks ms : List ByteArray) (n j : Nat) (bk : Nat → Nat) (D : DataW Unit) (w : World) (h : Tab w N M ks ms n bk D) (hj : j < n) (q : ByteArray)
    (hdis : ∀ i, i < n → i ≠ j → ks.getD i ByteArray.empty ≠ ks.getD j ByteArray.empty) (hq : ms.getD j ByteArray.empty = q) (hu : ∀ i, i < n → i ≠ j → ms.getD i ByteArray.empty ≠ q) :
    Calls Try.prog 14 #[.pointer (some ⟨N, 0, none⟩), .string q] w fun e w' => e = .returned (.pointer (some ⟨bk j, 0, none⟩)) ∧ Below w.heap.size w w' := by
  have HC := hide (find_yes N M ks ms n j bk D w h hj q hdis hq hu)
  clear h hdis hq hu
  go_enter Try.func14, Try.ntmps14
  go_wp2_with fail
  refine HC.out.mono ?_
  rintro e w1 ⟨rfl, hb⟩
  go_wp2_with fail
  go_ret
  exact ⟨rfl, hb⟩

theorem find_call_no (N M : Nat) (ks ms : List ByteArray) (n : Nat) (bk : Nat → Nat) (D : DataW Unit) (w : World) (h : Tab w N M ks ms n bk D) (q : ByteArray) (hu : ∀ i, i < n → ms.getD i ByteArray.empty ≠ q) :
    Calls Try.prog 14 #[.pointer (some ⟨N, 0, none⟩), .string q] w fun e w' => e = .returned (.pointer none) ∧ Below w.heap.size w w' := by
  have HC := hide (find_no N M ks ms n bk D w h q hu)
  clear h hu
  go_enter Try.func14, Try.ntmps14
  go_wp2_with fail
  refine HC.out.mono ?_
  rintro e w1 ⟨rfl, hb⟩
  go_wp2_with fail
  go_ret
  exact ⟨rfl, hb⟩

/-- it has answered yes or no -/
def SomeBool (e : Ending) : Prop := ∃ b, e = .returned (.bool b)

set_option maxHeartbeats 2000000 in
theorem bytes_any (a1 a2 : Option Addr) (n1 n2 c1 c2 : Nat) (k : Int) (q : ByteArray) (ks ms : List ByteArray) (w : World) (h1 : StrRow w a1 n1 ks) (h2 : StrRow w a2 n2 ms) (hn1 : n1 ≤ maxLen) (hn2 : n2 ≤ maxLen) (hq : q.size ≤ maxLen) (hks : ∀ i, (ks.getD i ByteArray.empty).size ≤ maxLen) (hms : ∀ i, (ms.getD i ByteArray.empty).size ≤ maxLen) :
    Calls Try.prog 12 #[.slice a1 n1 c1, .slice a2 n2 c2, .int .i64 k, .string q] w fun e w' => SomeBool e ∧ w = w' := by
  unfold maxLen at hn1 hn2 hq hks hms
  have H1 := hide h1
  have H2 := hide h2
  have HKS := hide hks
  have HMS := hide hms
  clear h1 h2 hks hms
  by_cases hb1 : 1048576 < n1
  · go_enter Try.func12, Try.ntmps12
    go_wp2
    go_ret
    exact ⟨⟨_, rfl⟩, rfl⟩
  go_enter Try.func12, Try.ntmps12
  go_wp2
  go_loop [9, 10] (fun z i => ∃ (j : Nat) (t : Int), j ≤ n1 ∧ i = .int .i64 j ∧ z = .int .i64 t ∧ 0 ≤ t ∧ t ≤ 1048576) (fun _ i => n1 - (intOf i).toNat)
  case atStart => exact ⟨0, n1, Nat.zero_le _, rfl, rfl, by omega, by omega⟩
  case round =>
    obtain ⟨j, t, hj, rfl, rfl, ht0, ht1⟩ := hrel
    by_cases hlt : j < n1
    · obtain ⟨b, off, rfl, hc⟩ := H1.out (by omega)
      have hcj := hc j hlt
      have hsj := HKS.out j
      obtain ⟨s, Hs⟩ : ∃ s, Hid (s = ks.getD j ByteArray.empty) := ⟨_, rfl⟩
      rw [← Hs.out] at hcj hsj
      clear hc
      by_cases hs1 : 1048576 < s.size
      · go_wp2
        go_ret
        exact ⟨⟨_, rfl⟩, rfl⟩
      · by_cases hs2 : 1048576 < t + s.size
        · go_wp2
          go_ret
          exact ⟨⟨_, rfl⟩, rfl⟩
        · go_wp2
          go_round
          case rel => exact ⟨j + 1, t + s.size, by omega, by go_num, rfl, by omega, by omega⟩
          case measure => simp [intOf]; omega
    · by_cases hb2 : 1048576 < n2
      · go_wp2
        go_ret
        exact ⟨⟨_, rfl⟩, rfl⟩
      by_cases hb3 : 1048576 < t + n2
      · go_wp2
        go_ret
        exact ⟨⟨_, rfl⟩, rfl⟩
      go_wp2
      go_loop [9, 11] (fun z i => ∃ (j : Nat) (t : Int), j ≤ n2 ∧ i = .int .i64 j ∧ z = .int .i64 t ∧ 0 ≤ t ∧ t ≤ 1048576) (fun _ i => n2 - (intOf i).toNat)
      case atStart => exact ⟨0, t + n2, Nat.zero_le _, rfl, rfl, by omega, by omega⟩
      case round =>
        obtain ⟨j2, t2, hj2, rfl, rfl, ht2, ht3⟩ := hrel
        by_cases hlt2 : j2 < n2
        · obtain ⟨b, off, rfl, hc⟩ := H2.out (by omega)
          have hcj := hc j2 hlt2
          have hsj := HMS.out j2
          obtain ⟨s, Hs⟩ : ∃ s, Hid (s = ms.getD j2 ByteArray.empty) := ⟨_, rfl⟩
          rw [← Hs.out] at hcj hsj
          clear hc
          by_cases hs1 : 1048576 < s.size
          · go_wp2
            go_ret
            exact ⟨⟨_, rfl⟩, rfl⟩
          · by_cases hs2 : 1048576 < t2 + s.size
            · go_wp2
              go_ret
              exact ⟨⟨_, rfl⟩, rfl⟩
            · go_wp2
              go_round
              case rel => exact ⟨j2 + 1, t2 + s.size, by omega, by go_num, rfl, by omega, by omega⟩
              case measure => simp [intOf]; omega
        · by_cases hb4 : 1048576 < q.size
          · go_wp2
            go_ret
            exact ⟨⟨_, rfl⟩, rfl⟩
          by_cases hb5 : 1048576 < t2 + q.size
          · go_wp2
            go_ret
            exact ⟨⟨_, rfl⟩, rfl⟩
          go_wp2
          go_ret
          exact ⟨⟨_, rfl⟩, rfl⟩
end Go.Proofs.Qxb6621646a.NamesWalk
