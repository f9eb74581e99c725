import Derived.Test.Qxb6621646aNames
namespace Go.Proofs.Qxb6621646a.NamesWalk
open Go.ChangeShapes Go.WideShapes Go.ChangeAt Go.RowKit Go.Maps
set_option linter.unusedVariables false
set_option linter.unusedSimpArgs false

theorem pR_inv (v : Value) (y : DataW Unit × List MemPlace) (h : pR v = some y) : ∃ c, v = .pointer c := by
  unfold pR at h
  split at h
  · exact ⟨_, rfl⟩
  · exact ⟨_, rfl⟩
  · cases h
theorem pR_block {c : Option Addr} {y : DataW Unit × List MemPlace} {b : Nat} (h : pR (.pointer c) = some y) (e : y.1 = .lit (.int .u64 b)) : c = some ⟨b, 0, none⟩ := by
  cases c with
  | none => simp [pR] at h; subst h; simp at e
  | some a =>
    simp only [pR] at h
    split at h
    · rename_i ha
      simp at h
      subst h
      simp at e
      cases a
      obtain ⟨rfl, rfl⟩ := ha
      have : _ = b := Int.ofNat.inj e
      simp only at this
      subst this
      rfl
    · cases h
theorem keyOf_string_inv {key : Value} {l : Lit} (h : keyOf Try.prog 9 key = some l) : ∃ s, key = .string s ∧ l = kl s := by
  cases key <;> simp [keyOf, Try.underlying9, mapKey] at h
  obtain ⟨_, rfl⟩ := h
  exact ⟨_, rfl, rfl⟩
theorem lookup_at {w : World} {N M : Nat} {ks ms : List ByteArray} {k : Nat} {bk : Nat → Nat} {D : DataW Unit} (h : Tab w N M ks ms k bk D) (j : Nat) (hj : j < k) (hs : (ks.getD j ByteArray.empty).size ≤ maxLen) :
    (Instr.lookup 36 (.map (some M)) (.string (ks.getD j ByteArray.empty)) false).run Try.prog w = .ok (.pointer (some ⟨bk j, 0, none⟩)) w := by
  obtain ⟨v, ps, hrun, hv⟩ := h.2.1.lookup law under36 (zero32 w) (show pR (.pointer none) = some (.nil, []) from rfl) (kl_key _ hs)
  obtain ⟨c, rfl⟩ := pR_inv _ _ hv
  rw [h.2.2.1 j hj] at hv
  have := pR_block hv rfl
  subst this
  exact hrun

set_option maxHeartbeats 400000 in
theorem childAt_any (N M : Nat) (ks ms : List ByteArray) (k j : Nat) (bk : Nat → Nat) (D : DataW Unit) (w : World) (h : Tab w N M ks ms k bk D) (hj : j < k) (hs : (ks.getD j ByteArray.empty).size ≤ maxLen) :
    Calls Try.prog 15 #[.pointer (some ⟨N, 0, none⟩), .string (ks.getD j ByteArray.empty)] w fun e w' => e = .returned (.pointer (some ⟨bk j, 0, none⟩)) ∧ w = w' := by
  have hl := lookup_at h j hj hs
  have hN := h.1
  have HH := hide h
  clear h
  obtain ⟨s1, Hs1⟩ : ∃ s1, Hid (s1 = ks.getD j ByteArray.empty) := ⟨_, rfl⟩
  rw [← Hs1.out] at hl ⊢
  go_enter Try.func15, Try.ntmps15
  go_wp2
  go_ret
  exact ⟨rfl, rfl⟩

theorem str_ne {s t : ByteArray} (h : s ≠ t) : (s.toList == t.toList) = false := by
  rw [beq_eq_false_iff_ne, ByteArray.toList_eq, ByteArray.toList_eq]
  intro e
  apply h
  cases s; cases t; simp only [ByteArray.mk.injEq]; exact Array.toList_inj.1 e

/-- what came up: the i-th entry -/
theorem came {w wr w1 : World} {N M : Nat} {ks ms : List ByteArray} {n : Nat} {bk : Nat → Nat} {D : DataW Unit} (h : Tab w N M ks ms n bk D) {l : Lit} {c : Option Addr} {y : DataW Unit} {ps : List MemPlace}
    (hl : Maps.has D l = true) (hv : pR (.pointer c) = some (y, ps)) (hat : ∀ zd, D.atKey l zd = y) (hB : Below w.heap.size w wr) (hg : wr.grownBy w1 (some w.heap.size)) :
    ∃ i, i < n ∧ l = kl (ks.getD i ByteArray.empty) ∧ c = some ⟨bk i, 0, none⟩ ∧ w1.cell? ⟨bk i, 1, none⟩ = some (.string (ms.getD i ByteArray.empty)) := by
  obtain ⟨i, hi, rfl⟩ := h.2.2.2.1 l hl
  have e := h.2.2.1 i hi .nil
  rw [hat] at e
  have hc := h.2.2.2.2 i hi
  have hlt := cell_lt hc
  refine ⟨i, hi, rfl, pR_block hv e, ?_⟩
  have h1 := (hB.cell hlt).trans hc
  exact hg.cell h1 (by simp at hlt ⊢; omega)

set_option maxHeartbeats 1000000 in
/-- the member q is the j-th one, and no other -/
theorem find_yes (N M : Nat) (ks ms : List ByteArray) (n j : Nat) (bk : Nat → Nat) (D : DataW Unit) (w : World) (h : Tab w N M ks ms n bk D) (hj : j < n) (q : ByteArray)
    (hdis : ∀ i, i < n → i ≠ j → ks.getD i ByteArray.empty ≠ ks.getD j ByteArray.empty) (hq : ms.getD j ByteArray.empty = q) (hu : ∀ i, i < n → i ≠ j → ms.getD i ByteArray.empty ≠ q) :
    Calls Try.prog 18 #[.pointer (some ⟨N, 0, none⟩), .string q] w fun e w' => e = .returned (.pointer (some ⟨bk j, 0, none⟩)) ∧ Below w.heap.size w w' := by
  have hN := h.1
  have hown := h.2.1
  have HH := hide h
  have HD := hide hdis
  have HQ := hide hq
  have HU := hide hu
  clear h hdis hq hu
  go_enter Try.func18, Try.ntmps18
  go_wp2_with (at_range; refine wpList_range_own _ rfl _ 36 rfl 9 32 law under36 pR M n D rfl hown ?_; intro w0 hrg0 hg0 hs0)
  go_frame
  go_loopw [6] (fun c wr => ∃ left cnt, wr.ranges Try.prog 9 pR M w.heap.size n D left cnt ∧ Hid (left (kl (ks.getD j ByteArray.empty)) = true) ∧ Hid (∀ l, left l = true → Maps.has D l = true) ∧ Below w.heap.size w wr) (fun _ wr => wr.rangeLeft M w.heap.size)
  case atStart =>
    refine ⟨_, _, hrg0, ?_, fun l hl => hl, (Below.refl _ _).grown hg0 (Nat.le_refl _) (by simp)⟩
    exact has_true_of_atKey (HH.out.2.2.1 j hj)
  case round =>
    obtain ⟨left, cnt, hrg, HL, HA, hB⟩ := hrel
    go_wp2_with (at_next; refine wpList_next_ranges _ rfl _ rfl 9 law pR Value.string Value.pointer ?_ ?_ M w.heap.size n D left cnt rfl hrg ?_ ?_)
    · intro key l hkey
      obtain ⟨s, rfl, _⟩ := keyOf_string_inv hkey
      exact ⟨s, rfl⟩
    · exact pR_inv
    · intro _ hno
      have := HL.out
      rw [hno] at this
      cases this
    · intro x c l y ps w1 cnt1 hkey hlk hv hat hrg1 hlt hg1 hs1 hen
      obtain ⟨i, hi, rfl, rfl, hcell⟩ := came HH.out (HA.out l hlk) hv hat hB hg1
      have hb1 : Below w.heap.size w w1 := hB.grown hg1 hB.size (fun r hr => by cases hr; exact Nat.le_refl _)
      have HRG := hide hrg
      have HRG1 := hide hrg1
      clear hat hkey hv hlk hrg hrg1
      by_cases hij : i = j
      · subst hij
        rw [HQ.out] at hcell
        go_wp2
        go_ret
        exact ⟨rfl, hb1⟩
      · have hne := str_ne (HU.out i hi hij)
        have HNE : Hid (kl (ks.getD j ByteArray.empty) ≠ kl (ks.getD i ByteArray.empty)) := fun e => HD.out i hi hij (kl_inj e).symm
        obtain ⟨t, Ht⟩ : ∃ t, Hid (t = ms.getD i ByteArray.empty) := ⟨_, rfl⟩
        rw [← Ht.out] at hcell hne
        go_wp2
        go_roundw
        case rel =>
          refine ⟨_, cnt1, HRG1.out, ?_, ?_, hb1⟩
          · show _ = true
            rw [HL.out, sameKey_ne HNE.out]; rfl
          · intro l hl
            simp only [Bool.and_eq_true] at hl
            exact HA.out l hl.1
        case measure => rw [HRG1.out.left_eq, HRG.out.left_eq]; exact hlt

set_option maxHeartbeats 1000000 in
/-- no member is q -/
theorem find_no (N M : Nat) (ks ms : List ByteArray) (n : Nat) (bk : Nat → Nat) (D : DataW Unit) (w : World) (h : Tab w N M ks ms n bk D) (q : ByteArray) (hu : ∀ i, i < n → ms.getD i ByteArray.empty ≠ q) :
    Calls Try.prog 18 #[.pointer (some ⟨N, 0, none⟩), .string q] w fun e w' => e = .returned (.pointer none) ∧ Below w.heap.size w w' := by
  have hN := h.1
  have hown := h.2.1
  have HH := hide h
  have HU := hide hu
  clear h hu
  go_enter Try.func18, Try.ntmps18
  go_wp2_with (at_range; refine wpList_range_own _ rfl _ 36 rfl 9 32 law under36 pR M n D rfl hown ?_; intro w0 hrg0 hg0 hs0)
  go_frame
  go_loopw [6] (fun c wr => ∃ left cnt, wr.ranges Try.prog 9 pR M w.heap.size n D left cnt ∧ Hid (∀ l, left l = true → Maps.has D l = true) ∧ Below w.heap.size w wr) (fun _ wr => wr.rangeLeft M w.heap.size)
  case atStart => exact ⟨_, _, hrg0, fun l hl => hl, (Below.refl _ _).grown hg0 (Nat.le_refl _) (by simp)⟩
  case round =>
    obtain ⟨left, cnt, hrg, HA, hB⟩ := hrel
    go_wp2_with (at_next; refine wpList_next_ranges _ rfl _ rfl 9 law pR Value.string Value.pointer ?_ ?_ M w.heap.size n D left cnt rfl hrg ?_ ?_)
    · intro key l hkey
      obtain ⟨s, rfl, _⟩ := keyOf_string_inv hkey
      exact ⟨s, rfl⟩
    · exact pR_inv
    · intro _ hno
      have HRG := hide hrg
      have HNO := hide hno
      clear hrg hno
      go_wp2
      go_ret
      exact ⟨rfl, hB⟩
    · intro x c l y ps w1 cnt1 hkey hlk hv hat hrg1 hlt hg1 hs1 hen
      obtain ⟨i, hi, rfl, rfl, hcell⟩ := came HH.out (HA.out l hlk) hv hat hB hg1
      have hb1 : Below w.heap.size w w1 := hB.grown hg1 hB.size (fun r hr => by cases hr; exact Nat.le_refl _)
      have HRG := hide hrg
      have HRG1 := hide hrg1
      clear hat hkey hv hlk hrg hrg1
      have hne := str_ne (HU.out i hi)
      obtain ⟨t, Ht⟩ : ∃ t, Hid (t = ms.getD i ByteArray.empty) := ⟨_, rfl⟩
      rw [← Ht.out] at hcell hne
      go_wp2
      go_roundw
      case rel =>
        refine ⟨_, cnt1, HRG1.out, ?_, hb1⟩
        intro l hl
        simp only [Bool.and_eq_true] at hl
        exact HA.out l hl.1
      case measure => rw [HRG1.out.left_eq, HRG.out.left_eq]; exact hlt
end Go.Proofs.Qxb6621646a.NamesWalk
