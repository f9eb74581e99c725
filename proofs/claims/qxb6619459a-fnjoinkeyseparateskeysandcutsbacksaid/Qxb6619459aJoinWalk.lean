import Derived.Test.Qxb6619459aDottedWalk
namespace Go.Proofs.Qxb6619459a.JoinWalk
open Go.ChangeShapes Go.WideShapes Go.ChangeAt Go.RowKit
set_option linter.unusedVariables false

/-- what joinKey computes -/
def jk (p k : ByteArray) : ByteArray := if p.toList.isEmpty then k else p ++ ⟨#[46]⟩ ++ k

theorem ba_ext {a b : ByteArray} (h : a.data.toList = b.data.toList) : a = b := by
  cases a; cases b; simp only [ByteArray.mk.injEq]; exact Array.toList_inj.1 h
theorem empty_iff (p : ByteArray) : p.toList.isEmpty = true ↔ p.data.toList = [] := by
  rw [ByteArray.toList_eq]; simp
theorem jk_data (p k : ByteArray) : (jk p k).data.toList = if p.data.toList = [] then k.data.toList else p.data.toList ++ 46 :: k.data.toList := by
  unfold jk
  by_cases h : p.data.toList = []
  · rw [if_pos ((empty_iff p).2 h), if_pos h]
  · rw [if_neg (fun e => h ((empty_iff p).1 e)), if_neg h]
    simp
theorem size_data (p : ByteArray) : p.size = p.data.toList.length := rfl
theorem jk_size (p k : ByteArray) : (jk p k).size ≤ p.size + k.size + 1 := by
  rw [size_data, size_data, size_data, jk_data]
  split
  · omega
  · simp; omega

set_option maxHeartbeats 400000 in
theorem join_some (p k : ByteArray) (w : World) (hp : p.size ≤ 10000000) (hk : k.size ≤ 10000000) (h : p.toList.isEmpty = false) :
    Calls Try.prog 10 #[.string p, .string k] w fun e w' => e = .returned (.string (p ++ ⟨#[46]⟩ ++ k)) ∧ w' = w := by
  go_enter Try.func10, Try.ntmps10
  go_wp2
  go_ret
  exact ⟨rfl, rfl⟩

set_option maxHeartbeats 400000 in
theorem join_none (p k : ByteArray) (w : World) (h : p.toList.isEmpty = true) :
    Calls Try.prog 10 #[.string p, .string k] w fun e w' => e = .returned (.string k) ∧ w' = w := by
  go_enter Try.func10, Try.ntmps10
  go_wp2
  go_ret
  exact ⟨rfl, rfl⟩

theorem join_to (p k r : ByteArray) (w : World) (hp : p.size ≤ 10000000) (hk : k.size ≤ 10000000) (hr : Hid (r = jk p k)) :
    Calls Try.prog 10 #[.string p, .string k] w fun e w' => e = .returned (.string r) ∧ w' = w := by
  rw [hr.out]
  unfold jk
  by_cases h : p.toList.isEmpty = true
  · rw [if_pos h]; exact join_none p k w h
  · rw [if_neg h]; exact join_some p k w hp hk (by simpa using h)

def hasDotB (l : List UInt8) : Bool := l.any fun b => b == 46

theorem any_take_succ (s : ByteArray) (k : Nat) (h : k < s.size) (h0 : hasDotB (s.data.toList.take k) = false) : hasDotB (s.data.toList.take (k + 1)) = (s[k] == 46) := by
  unfold hasDotB at *
  rw [take_snoc s k h, List.any_append, h0]
  simp

theorem byte_eq (b : UInt8) : ((b.toNat : Int) == 46) = (b == 46) := by
  rw [Bool.eq_iff_iff]
  simp only [beq_iff_eq]
  constructor
  · intro h; exact UInt8.toNat_inj.1 (by simpa using (by omega : b.toNat = 46))
  · intro h; subst h; rfl

theorem any_take_true (s : ByteArray) (k : Nat) (h : hasDotB (s.data.toList.take k) = true) : hasDotB s.data.toList = true := by
  unfold hasDotB at *
  rw [List.any_eq_true] at h ⊢
  obtain ⟨x, hx, h⟩ := h
  exact ⟨x, List.mem_of_mem_take hx, h⟩

set_option maxHeartbeats 400000 in
theorem hasDot_any (s : ByteArray) (w : World) (hs : s.size ≤ 10000000) :
    Calls Try.prog 13 #[.string s] w fun e w' => e = .returned (.bool (hasDotB s.data.toList)) ∧ w' = w := by
  go_enter Try.func13, Try.ntmps13
  go_wp2
  go_loop [3] (fun i => ∃ k : Nat, k ≤ s.size ∧ i = .int .i64 k ∧ Hid (hasDotB (s.data.toList.take k) = false)) (fun i => s.size - (intOf i).toNat)
  case atStart => exact ⟨0, Nat.zero_le _, rfl, rfl⟩
  case round =>
    obtain ⟨k, hk, rfl, hno⟩ := hrel
    by_cases hlt : k < s.size
    · have hsu := any_take_succ s k hlt hno.out
      cases hd : (s[k] == 46)
      · rw [hd] at hsu
        have hb : ((s[k].toNat : Int) == 46) = false := by rw [byte_eq, hd]
        have HS : Hid (hasDotB (s.data.toList.take (k + 1)) = false) := hsu
        clear hsu hd
        go_wp2
        go_round
        case rel => exact ⟨k + 1, by omega, by go_num, HS⟩
        case measure => simp [intOf]; omega
      · rw [hd] at hsu
        have hb : ((s[k].toNat : Int) == 46) = true := by rw [byte_eq, hd]
        have HS : Hid (hasDotB s.data.toList = true) := any_take_true s _ hsu
        clear hsu hd
        go_wp2
        go_ret
        exact ⟨by rw [HS.out]; rfl, rfl⟩
    · have HS : Hid (hasDotB s.data.toList = false) := by
        have := hno.out
        rwa [List.take_of_length_le (by rw [← size_data]; omega)] at this
      go_wp2
      go_ret
      exact ⟨by rw [HS.out]; rfl, rfl⟩

set_option maxHeartbeats 400000 in
/-- the last dot lies at t -/
theorem lastDot_at (s : ByteArray) (t : Nat) (w : World) (hs : s.size ≤ 10000000) (ht : t < s.size) (hat : ((s[t].toNat : Int) == 46) = true)
    (hno : Hid (∀ (j : Nat) (hj : j < s.size), t < j → ((s[j].toNat : Int) == 46) = false)) :
    Calls Try.prog 14 #[.string s] w fun e w' => e = .returned (.int .i64 t) ∧ w' = w := by
  go_enter Try.func14, Try.ntmps14
  go_wp2
  go_loop [3] (fun i => ∃ k : Nat, t ≤ k ∧ k < s.size ∧ i = .int .i64 k) (fun i => (intOf i).toNat)
  case atStart => exact ⟨s.size - 1, by omega, by omega, by go_num⟩
  case round =>
    obtain ⟨k, hk, hlt, rfl⟩ := hrel
    by_cases hkt : t < k
    · have hb := hno.out k hlt hkt
      go_wp2
      go_round
      case rel => exact ⟨k - 1, by omega, by omega, by go_num⟩
      case measure => simp [intOf]; omega
    · obtain rfl : k = t := by omega
      go_wp2
      go_ret
      exact ⟨rfl, rfl⟩
end Go.Proofs.Qxb6619459a.JoinWalk
