import Derived.Test.Qxb6621646aNamesMain
namespace Go.Proofs.Qxb6621646a.NamesWalk
open Go.ChangeShapes Go.WideShapes Go.ChangeAt Go.RowKit Go.Maps
set_option linter.unusedVariables false
set_option linter.unusedSimpArgs false

set_option maxRecDepth 100000 in
set_option maxHeartbeats 1000000 in
theorem walkOut (a1 a2 : Option Addr) (n1 n2 c1 c2 : Nat) (k : Int) (q : ByteArray) (ks ms : List ByteArray) (w : World) (r1 : IsStrs w a1 n1 c1 ks) (r2 : IsStrs w a2 n2 c2 ms) (hq : q.size ≤ maxLen) (h : 4096 < n1 ∨ 4096 < n2 ∨ 262144 < q.size) :
    Calls Try.prog 5 #[.slice a1 n1 c1, .slice a2 n2 c2, .int .i64 k, .string q] w fun e w' => e = .returned (.bool true) ∧ Below w.heap.size w w' := by
  have HBY := hide (bytes_any a1 a2 n1 n2 c1 c2 k q ks ms w r1.row r2.row r1.len_le.1 r2.len_le.1 hq r1.sizes r2.sizes)
  have l1 := r1.len_le.1
  have l2 := r2.len_le.1
  unfold maxLen at l1 l2 hq
  clear r1 r2
  by_cases h1 : 4096 < n1
  · clear h
    go_enter Try.func5, Try.ntmps5
    go_wp2_with fail
    refine HBY.out.mono ?_
    rintro e1 w1 ⟨⟨b, rfl⟩, rfl⟩
    clear HBY
    cases b
    · go_wp2_with fail
      go_ret
      exact ⟨rfl, Below.refl _ _⟩
    · go_wp2_with fail
      go_ret
      exact ⟨rfl, Below.refl _ _⟩
  by_cases h2 : 4096 < n2
  · clear h
    go_enter Try.func5, Try.ntmps5
    go_wp2_with fail
    refine HBY.out.mono ?_
    rintro e1 w1 ⟨⟨b, rfl⟩, rfl⟩
    clear HBY
    cases b
    · go_wp2_with fail
      go_ret
      exact ⟨rfl, Below.refl _ _⟩
    · go_wp2_with fail
      go_ret
      exact ⟨rfl, Below.refl _ _⟩
  have h3 : 262144 < q.size := by omega
  clear h
  go_enter Try.func5, Try.ntmps5
  go_wp2_with fail
  refine HBY.out.mono ?_
  rintro e1 w1 ⟨⟨b, rfl⟩, rfl⟩
  clear HBY
  cases b
  · go_wp2_with fail
    go_ret
    exact ⟨rfl, Below.refl _ _⟩
  · go_wp2_with fail
    go_ret
    exact ⟨rfl, Below.refl _ _⟩

theorem walkAll (a0 a1 : Option Addr) (len0 cap0 len1 cap1 : Nat) (s0 s1 : List ByteArray) (a2 : Int) (a3 : ByteArray) (w : World) (r0 : IsStrs w a0 len0 cap0 s0) (r1 : IsStrs w a1 len1 cap1 s1) (w3 : a3.size ≤ maxLen) :
    Calls Try.prog 5 #[.slice a0 len0 cap0, .slice a1 len1 cap1, .int .i64 a2, .string a3] w fun e w' => e = .returned (.bool true) ∧ Below w.heap.size w w' := by
  by_cases h : 4096 < len0 ∨ 4096 < len1 ∨ 262144 < a3.size
  · exact walkOut a0 a1 len0 len1 cap0 cap1 a2 a3 s0 s1 w r0 r1 w3 h
  · exact walkMain a0 a1 len0 len1 cap0 cap1 a2 a3 s0 s1 w r0 r1 (by omega) (by omega) (by omega)
end Go.Proofs.Qxb6621646a.NamesWalk
