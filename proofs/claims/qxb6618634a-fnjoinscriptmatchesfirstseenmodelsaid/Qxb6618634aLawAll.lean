import Derived.Test.Qxb6618634aLaw
namespace Go.Proofs.Qxb6618634a.JoinWalk
open Go.ChangeShapes Go.WideShapes Go.ChangeAt Go.RowKit Go.Maps
set_option linter.unusedVariables false
set_option linter.unusedSimpArgs false

/-- where the byte count, or a length, is out of bounds the law returns true at once -/
theorem bytes_some (j m : Int) (a b : Option Addr) (n1 c1 n2 c2 : Nat) (w : World) (h1 : n1 ≤ 9223372036854775807) (h2 : n2 ≤ 9223372036854775807) :
    Calls Try.prog 9 #[.int .u64 j, .int .i64 m, .slice a n1 c1, .slice b n2 c2] w fun e w' => (e = .returned (.bool true) ∨ e = .returned (.bool false)) ∧ w = w' := by
  by_cases k1 : 1048576 < n1
  · go_enter Try.func9, Try.ntmps9
    go_wp2
    go_ret
    first | exact ⟨.inl rfl, rfl⟩ | exact ⟨.inr rfl, rfl⟩
  · by_cases k2 : 1048576 < n2
    · go_enter Try.func9, Try.ntmps9
      go_wp2
      go_ret
      first | exact ⟨.inl rfl, rfl⟩ | exact ⟨.inr rfl, rfl⟩
    · by_cases k3 : 1048576 < n1 + n2
      · have k4 : (1048576 : Int) < (n1 : Int) + (n2 : Int) := by omega
        go_enter Try.func9, Try.ntmps9
        go_wp2
        go_ret
        first | exact ⟨.inl rfl, rfl⟩ | exact ⟨.inr rfl, rfl⟩
      · have k4 : ¬ (1048576 : Int) < (n1 : Int) + (n2 : Int) := by omega
        go_enter Try.func9, Try.ntmps9
        go_wp2
        go_ret
        first | exact ⟨.inl rfl, rfl⟩ | exact ⟨.inr rfl, rfl⟩
set_option maxRecDepth 100000 in
set_option maxHeartbeats 1000000 in
theorem out1 (j0 m0 : Int) (a1 : Option Addr) (n1 c1 : Nat) (a2 : Option Addr) (n2 c2 : Nat) (w : World) (b1 : n1 ≤ 9223372036854775807) (b2 : n2 ≤ 9223372036854775807) (k1 : 32768 < n1) :
    Calls Try.prog 4 #[.int .u64 j0, .int .i64 m0, .slice a1 n1 c1, .slice a2 n2 c2] w fun e w' => e = .returned (.bool true) ∧ Below w.heap.size w w' := by
  go_enter Try.func4, Try.ntmps4
  go_wp2_with fail
  refine (bytes_some _ _ _ _ _ _ _ _ _ b1 b2).mono ?_
  rintro e1 w1 ⟨rfl | rfl, rfl⟩
  · go_wp2
    go_ret
    exact ⟨rfl, Below.refl _ _⟩
  · go_wp2
    go_ret
    exact ⟨rfl, Below.refl _ _⟩

set_option maxRecDepth 100000 in
set_option maxHeartbeats 1000000 in
theorem out2 (j0 m0 : Int) (a1 : Option Addr) (n1 c1 : Nat) (a2 : Option Addr) (n2 c2 : Nat) (w : World) (b1 : n1 ≤ 9223372036854775807) (b2 : n2 ≤ 9223372036854775807) (h1 : n1 ≤ 32768) (k2 : 65536 < n2) :
    Calls Try.prog 4 #[.int .u64 j0, .int .i64 m0, .slice a1 n1 c1, .slice a2 n2 c2] w fun e w' => e = .returned (.bool true) ∧ Below w.heap.size w w' := by
  go_enter Try.func4, Try.ntmps4
  go_wp2_with fail
  refine (bytes_some _ _ _ _ _ _ _ _ _ b1 b2).mono ?_
  rintro e1 w1 ⟨rfl | rfl, rfl⟩
  · go_wp2
    go_ret
    exact ⟨rfl, Below.refl _ _⟩
  · go_wp2
    go_ret
    exact ⟨rfl, Below.refl _ _⟩

set_option maxRecDepth 100000 in
set_option maxHeartbeats 1000000 in
theorem out3 (j0 m0 : Int) (a1 : Option Addr) (n1 c1 : Nat) (a2 : Option Addr) (n2 c2 : Nat) (w : World) (b1 : n1 ≤ 9223372036854775807) (b2 : n2 ≤ 9223372036854775807) (h1 : n1 ≤ 32768) (h2 : n2 ≤ 65536) (k3 : m0 < 0) :
    Calls Try.prog 4 #[.int .u64 j0, .int .i64 m0, .slice a1 n1 c1, .slice a2 n2 c2] w fun e w' => e = .returned (.bool true) ∧ Below w.heap.size w w' := by
  go_enter Try.func4, Try.ntmps4
  go_wp2_with fail
  refine (bytes_some _ _ _ _ _ _ _ _ _ b1 b2).mono ?_
  rintro e1 w1 ⟨rfl | rfl, rfl⟩
  · go_wp2
    go_ret
    exact ⟨rfl, Below.refl _ _⟩
  · go_wp2
    go_ret
    exact ⟨rfl, Below.refl _ _⟩

set_option maxRecDepth 100000 in
set_option maxHeartbeats 1000000 in
theorem out4 (j0 m0 : Int) (a1 : Option Addr) (n1 c1 : Nat) (a2 : Option Addr) (n2 c2 : Nat) (w : World) (b1 : n1 ≤ 9223372036854775807) (b2 : n2 ≤ 9223372036854775807) (h1 : n1 ≤ 32768) (h2 : n2 ≤ 65536) (h3 : ¬ m0 < 0) (k4 : j0 < (n1 : Int)) :
    Calls Try.prog 4 #[.int .u64 j0, .int .i64 m0, .slice a1 n1 c1, .slice a2 n2 c2] w fun e w' => e = .returned (.bool true) ∧ Below w.heap.size w w' := by
  have wl : IntKind.u64.wrap (n1 : Int) = n1 := by simp [IntKind.wrap, IntKind.bits, IntKind.signed]; omega
  go_enter Try.func4, Try.ntmps4
  go_wp2_with fail
  refine (bytes_some _ _ _ _ _ _ _ _ _ b1 b2).mono ?_
  rintro e1 w1 ⟨rfl | rfl, rfl⟩
  · go_wp2
    go_ret
    exact ⟨rfl, Below.refl _ _⟩
  · go_wp2
    go_ret
    exact ⟨rfl, Below.refl _ _⟩

set_option maxRecDepth 100000 in
set_option maxHeartbeats 1000000 in
theorem out5 (j0 m0 : Int) (a1 : Option Addr) (n1 c1 : Nat) (a2 : Option Addr) (n2 c2 : Nat) (w : World) (b1 : n1 ≤ 9223372036854775807) (b2 : n2 ≤ 9223372036854775807) (h1 : n1 ≤ 32768) (h2 : n2 ≤ 65536) (h3 : ¬ m0 < 0) (h4 : ¬ j0 < (n1 : Int)) (k5 : 0 < n1) (k6 : m0 < 1) :
    Calls Try.prog 4 #[.int .u64 j0, .int .i64 m0, .slice a1 n1 c1, .slice a2 n2 c2] w fun e w' => e = .returned (.bool true) ∧ Below w.heap.size w w' := by
  have wl : IntKind.u64.wrap (n1 : Int) = n1 := by simp [IntKind.wrap, IntKind.bits, IntKind.signed]; omega
  go_enter Try.func4, Try.ntmps4
  go_wp2_with fail
  refine (bytes_some _ _ _ _ _ _ _ _ _ b1 b2).mono ?_
  rintro e1 w1 ⟨rfl | rfl, rfl⟩
  · go_wp2
    go_ret
    exact ⟨rfl, Below.refl _ _⟩
  · go_wp2
    go_ret
    exact ⟨rfl, Below.refl _ _⟩

theorem row_len {w : World} {a : Option Addr} {n c : Nat} {zs : List Int} (h : IsRow .i64 w a n c zs) : n ≤ 9223372036854775807 := by
  rcases h with ⟨_, rfl, _⟩ | ⟨_, _, h1, h2, _⟩
  · omega
  · unfold maxLen at h2; omega

theorem walkAll (a0 : Int) (a1 : Int) (a2 : Option Addr) (len2 cap2 : Nat) (z2 : List Int) (a3 : Option Addr) (len3 cap3 : Nat) (z3 : List Int) (w : World) (w0 : (Lit.int .u64 a0).wf = true) (w1 : (Lit.int .i64 a1).wf = true) (w2 : IsRow .i64 w a2 len2 cap2 z2) (w3 : IsRow .i64 w a3 len3 cap3 z3) :
    Calls Try.prog 4 #[.int .u64 a0, .int .i64 a1, .slice a2 len2 cap2, .slice a3 len3 cap3] w fun e w' => e = .returned (.bool true) ∧ Below w.heap.size w w' := by
  have b0 : 0 ≤ a0 ∧ a0 < 18446744073709551616 := by
    simp [Lit.wf, IntKind.min, IntKind.max, IntKind.signed, IntKind.bits] at w0
    omega
  have b1 : -9223372036854775808 ≤ a1 ∧ a1 < 9223372036854775808 := by
    simp [Lit.wf, IntKind.min, IntKind.max, IntKind.signed, IntKind.bits] at w1
    omega
  have l2 := row_len w2
  have l3 := row_len w3
  by_cases k1 : 32768 < len2
  · exact out1 a0 a1 a2 len2 cap2 a3 len3 cap3 w l2 l3 k1
  by_cases k2 : 65536 < len3
  · exact out2 a0 a1 a2 len2 cap2 a3 len3 cap3 w l2 l3 (by omega) k2
  by_cases k3 : a1 < 0
  · exact out3 a0 a1 a2 len2 cap2 a3 len3 cap3 w l2 l3 (by omega) (by omega) k3
  by_cases k4 : a0 < (len2 : Int)
  · exact out4 a0 a1 a2 len2 cap2 a3 len3 cap3 w l2 l3 (by omega) (by omega) k3 k4
  by_cases k5 : 0 < len2 ∧ a1 < 1
  · exact out5 a0 a1 a2 len2 cap2 a3 len3 cap3 w l2 l3 (by omega) (by omega) k3 k4 k5.1 k5.2
  · exact walkMain a0 a1 a2 len2 cap2 z2 a3 len3 cap3 z3 w b0 ⟨by omega, by omega⟩ (by omega) (by omega) (by omega) (fun h => by omega) w2 w3
end Go.Proofs.Qxb6618634a.JoinWalk
