import Derived.Test.Qxb6621646aJsonCalls
import Derived.Laws.CopyOwn
import Derived.WalkSpells
namespace Go.Proofs.Qxb6621646a.fnIsJSONNumberAutomaton
open Go.ChangeShapes Go.WideShapes Go.ChangeAt Go.RowKit Json JsonWalk
set_option linter.unusedVariables false
set_option linter.unusedSimpArgs false

/-- WHAT THE WALK IS TOLD OF A SLICE OF INTEGERS THAT CAME IN (as the given shell types it). -/
def IsRow (k : IntKind) (w : World) (a : Option Addr) (len cap : Nat) (zs : List Int) : Prop :=
  (a = none ∧ len = 0 ∧ cap = 0 ∧ zs = []) ∨
  ∃ x, a = some x ∧ len ≤ cap ∧ cap ≤ maxLen ∧ zs.length = cap ∧ (∀ i, i < zs.length → w.cell? (x.add i) = some (.int k (zs.getD i 0))) ∧ ∀ n ∈ zs, (Lit.int k n).wf = true

theorem Try.info5 : (Try.prog.info? 5).map (fun i => (i.zero, i.size, i.bytes)) = some (some (.int .u8 0), 1, 1) := by kernel_rfl
theorem Try.size5 : (Try.prog.info? 5).map (·.size) = some 1 := by kernel_rfl

theorem walkNil (w : World) : Calls Try.prog 4 #[.slice none 0 0] w fun e w' => e = .returned (.bool true) ∧ Below w.heap.size w w' := by
  go_enter Try.func4, Try.ntmps4
  go_wp2_with (go_at_call 10; go_in)
  go_wp2_with fail
  refine (isjson_nil w).mono ?_
  rintro e w1 ⟨rfl, hb1⟩
  go_wp2_with fail
  refine (accepts_nil w1).mono ?_
  rintro e w2 ⟨rfl, rfl⟩
  go_wp2_with fail
  go_ret
  exact ⟨ret_bool (by simp), hb1⟩

theorem walkOut (a : Option Addr) (len cap : Nat) (w : World) (hl : len ≤ maxLen) (h : 65536 < len) : Calls Try.prog 4 #[.slice a len cap] w fun e w' => e = .returned (.bool true) ∧ Below w.heap.size w w' := by
  unfold maxLen at hl
  by_cases c1 : 1048576 < len
  · go_enter Try.func4, Try.ntmps4
    go_wp2
    go_ret
    exact ⟨rfl, Below.refl _ _⟩
  · go_enter Try.func4, Try.ntmps4
    go_wp2
    go_ret
    exact ⟨rfl, Below.refl _ _⟩

theorem cs_at (zs : List Int) (len j : Nat) (hj : j < len) (hz : len ≤ zs.length) : ((zs.take len).map (Value.int .u8))[j]? = some (.int .u8 ((zs.take len).getD j 0)) := by
  have h : j < zs.length := by omega
  simp [hj, h]

set_option maxHeartbeats 400000 in
theorem walkMain (x : Addr) (len cap : Nat) (zs : List Int) (w : World) (hlen : len ≤ 65536)
    (hlc : len ≤ cap) (hz : zs.length = cap) (hc : ∀ i, i < zs.length → w.cell? (x.add i) = some (.int .u8 (zs.getD i 0))) (hwf : ∀ n ∈ zs, (Lit.int .u8 n).wf = true) :
    Calls Try.prog 4 #[.slice (some x) len cap] w fun e w' => e = .returned (.bool true) ∧ Below w.heap.size w w' := by
  obtain ⟨i0, hi, hz0, hz1, hz2⟩ := info_parts Try.info5
  have hcs : ∀ j v, ((zs.take len).map (Value.int .u8))[j]? = some v → w.cell? (x.add j) = some v := by
    intro j v hj
    simp only [List.getElem?_map, List.getElem?_take, Option.map_eq_some_iff] at hj
    obtain ⟨u, hu, rfl⟩ := hj
    by_cases hjl : j < len
    · rw [if_pos hjl] at hu
      have hjz : j < zs.length := by omega
      rw [hc j hjz]
      simp [hu]
    · rw [if_neg hjl] at hu; cases hu
  clear hc
  have hrange : ∀ j, 0 ≤ (zs.take len).getD j 0 ∧ (zs.take len).getD j 0 ≤ 255 := by
    intro j
    have := range_u8 (zs := zs.take len) (fun n hn => hwf n (List.mem_of_mem_take hn)) j
    simpa using this
  have HRG := hide hrange
  have hmin : ((zs.take len).map (Value.int .u8)).length = len := by simp; omega
  obtain ⟨cs, Hcs⟩ : ∃ cs, Hid (cs = (zs.take len).map (Value.int .u8)) := ⟨_, rfl⟩
  rw [← Hcs.out] at hcs hmin
  have HC := hide hcs
  have HM := hide hmin
  have HZ := hide hz
  clear hcs hmin hz hwf hrange
  go_enter Try.func4, Try.ntmps4
  go_wp2_with (first
    | (at_make; refine wpList_make_full _ rfl _ _ 22 rfl w.heap.size 5 i0 (.int .u8 0) 1 Try.underlying22 hi hz0 hz1 _ _ _ _ len rfl rfl rfl rfl ?_ ?_ ?_ ?_)
    | (go_at_call 10; go_in))
  · rw [hz2]; omega
  · unfold maxLen; omega
  · exact Nat.le_refl _
  intro w1 hown1 hgrow1
  rw [toList_madeCells_one] at hown1
  obtain ⟨-, hh⟩ := hown1
  have hh1 : w1.heap[w.heap.size]? = some (.cells (List.replicate len (Value.int .u8 0)).toArray 5 (0, 0)) := by
    rcases hh with ⟨hh, _⟩ | ⟨g, cp, cur, hv, _, hg, _, _, hsz, ht⟩
    · simp at hh
    · simp only [Value.slice.injEq, Option.some.injEq, Addr.mk.injEq, and_true, true_and] at hv
      obtain ⟨rfl, rfl⟩ := hv
      rw [hg, ← ht, List.take_of_length_le (by simp; omega)]
  have hb1 : Below w.heap.size w w1 := (Below.refl _ _).grown hgrow1 (Nat.le_refl _) (by simp)
  have HC1 : Hid (∀ j v, cs[j]? = some v → w1.cell? (x.add j) = some v) := by
    intro j v hj
    exact hgrow1.cell (HC.out j v hj) (by simp)
  have HH1 := hide hh1
  clear hh hgrow1 hh1
  go_wp2_with (first
    | (refine wpList_copy_splice rfl (.tmp 15) (.tmp 16) 22 22 rfl 5 Try.underlying22 Try.size5 _ _ _ _ _ _ rfl rfl w.heap.size 0 (List.replicate len (Value.int .u8 0)) 5 HH1.out cs (HM.out.trans (Nat.min_self len).symm) ?_ ?_ ?_ w.heap.size w hb1 (Nat.le_refl _) ?_))
  · intro _; exact HC1.out
  · have := HM.out; simp; omega
  · rw [Hcs.out]; exact ints_oneCell _ _
  intro w2 HG2 hB2
  have hsp : splice (List.replicate len (Value.int .u8 0)) 0 cs = cs := by
    have := HM.out; unfold splice; simp; omega
  have hcl : cs.length = len := HM.out
  have hown2 : w2.ownsRow w.heap.size 5 1 (.slice (some ⟨w.heap.size, 0, none⟩) len len) len cs :=
    ⟨by omega, .inr ⟨w.heap.size, len, cs.toArray, rfl, Nat.le_refl _, by rw [HG2.out, hsp], Nat.le_refl _, by unfold maxLen; omega, by simp; omega, by rw [List.toList_toArray]; exact List.take_of_length_le (by omega)⟩⟩
  have hlt2 : w.heap.size < w2.heap.size := (hown2.lt _ rfl).2
  have HCL : Hid (∀ j, j < len → w2.cell? ⟨w.heap.size, j, none⟩ = some (.int .u8 ((zs.take len).getD j 0))) := by
    intro j hj
    rw [hown2.cellAt j (by omega), Hcs.out]
    exact cs_at zs len j hj (by have := HZ.out; omega)
  clear HC1 HH1 HG2 hsp hcl hb1 hown2
  have HLL : Hid ((zs.take len).length = len) := by have := HZ.out; show _ = _; simp; omega
  go_wp2_with fail
  refine (isjson_any w.heap.size len len (zs.take len) w2 HLL.out (by omega) hlt2 HCL.out HRG.out).mono ?_
  rintro e w3 ⟨rfl, hb3⟩
  go_wp2_with fail
  refine (accepts_any w.heap.size len len (zs.take len) w3 HLL.out (by omega) (fun j hj => (hb3.cell (by simpa using hlt2)).trans (HCL.out j hj)) HRG.out).mono ?_
  rw [run0]
  rintro e w4 ⟨rfl, rfl⟩
  have hb4 := hB2.trans (hb3.mono (by omega))
  go_wp2_with fail
  go_ret
  exact ⟨ret_bool (by simp), hb4⟩

theorem walkAll (a0 : Option Addr) (len0 cap0 : Nat) (z0 : List Int) (w : World) (w0 : IsRow .u8 w a0 len0 cap0 z0) :
    Calls Try.prog 4 #[.slice a0 len0 cap0] w fun e w' => e = .returned (.bool true) ∧ Below w.heap.size w w' := by
  rcases w0 with ⟨rfl, rfl, rfl, rfl⟩ | ⟨x, rfl, h1, h2, h3, h4, h5⟩
  · exact walkNil w
  · by_cases h : 65536 < len0
    · exact walkOut _ len0 cap0 w (by omega) h
    · exact walkMain x len0 cap0 z0 w (by omega) h1 h3 h4 h5
end Go.Proofs.Qxb6621646a.fnIsJSONNumberAutomaton
