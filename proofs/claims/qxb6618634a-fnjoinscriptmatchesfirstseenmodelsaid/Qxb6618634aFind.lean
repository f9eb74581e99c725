import Derived.Test.Qxb6618634aState
namespace Go.Proofs.Qxb6618634a.JoinWalk
open Go.ChangeShapes Go.WideShapes Go.ChangeAt Go.RowKit Go.Maps
set_option linter.unusedVariables false
set_option linter.unusedSimpArgs false

variable {w : World} {N PM EM lb nE : Nat} {Z : Array Value} {sl : Value} {j0 m : Int} {seen : List Int} {DP DE : DataW Unit}

theorem St.cell (h : St w N PM EM lb Z sl j0 m seen nE DP DE) {i : Nat} {v : Value} (hz : Z[i]? = some v) : w.cell? ⟨N, i, none⟩ = some v := row_cell h.hN hz

/-- what a look-up in 'position' gives -/
theorem St.look (h : St w N PM EM lb Z sl j0 m seen nE DP DE) {id : Int} (hid : okI id) :
    ∃ c : Int, (Instr.lookup 63 (.map (some PM)) (.int .i64 id) true).run Try.prog w = .ok (.tuple #[.int .i64 c, .bool (decide (id ∈ seen))]) w ∧ ∀ i, i < seen.length → seen.getD i 0 = id → c = i := by
  obtain ⟨v, ps, hrun, hv⟩ := h.hP.look_ok law2 under63 (zero3 w) (plainElem_int Try.underlying3 (by decide)) (kl_key hid)
  obtain ⟨c, rfl, hc, hwc⟩ := plainElem_int_inv Try.underlying3 hv
  refine ⟨c, ?_, fun i hi e => ?_⟩
  · rw [hrun, h.rP.2.1]
  · have h1 := h.rP.1 i hi (.lit (.int .i64 0))
    rw [e] at h1
    have h2 := congrArg Prod.fst hc
    simp only at h2
    rw [h1] at h2
    simpa using h2.symm

set_option maxHeartbeats 400000 in
theorem find_row (h : St w N PM EM lb Z sl j0 m seen nE DP DE) {id : Int} (hid : okI id) :
    Calls Try.prog 27 #[.pointer (some ⟨N, 0, none⟩), .int .i64 id] w fun e w' =>
      ((id ∉ seen ∧ e = .returned (.pointer none)) ∨ ∃ i g cap, i < seen.length ∧ seen.getD i 0 = id ∧ sl = .slice (some ⟨g, 0, none⟩) seen.length cap ∧ e = .returned (.pointer (some ⟨g, i * 30, none⟩))) ∧ w = w' := by
  have c0 := h.cell h.z0
  have c1 := h.cell h.z1
  obtain ⟨c, hrun, hc⟩ := h.look hid
  by_cases hm : id ∈ seen
  · obtain ⟨i, hi, e⟩ := place_of hm
    obtain ⟨g, cap, rfl, -⟩ := h.listed (List.ne_nil_of_mem hm)
    have := hc i hi e
    subst this
    have hd : decide (id ∈ seen) = true := by simpa using hm
    rw [hd] at hrun
    have HC := hide hc
    clear hc hd
    have hi2 : (i : Int) < (seen.length : Int) := by omega
    go_enter Try.func27, Try.ntmps27
    go_wp2
    go_ret
    refine ⟨.inr ⟨i, g, cap, hi, e, rfl, rfl⟩, rfl⟩
  · have hd : decide (id ∈ seen) = false := by simpa using hm
    rw [hd] at hrun
    clear hc hd
    go_enter Try.func27, Try.ntmps27
    go_wp2
    go_ret
    exact ⟨.inl ⟨hm, rfl⟩, rfl⟩

theorem below_fresh {w w' : World} {o : Obj} (hg : (w.alloc o).grownBy w' (some w.heap.size)) : Below w.heap.size w w' :=
  ((Below.refl _ _).alloc (Nat.le_refl _) _).grown hg (by simp) (by rintro k e; cases e; exact Nat.le_refl _)

theorem below_row {w W w' : World} {g : Nat} (hb : Below w.heap.size w W) (hg : W.grownBy w' (some g)) (hge : w.heap.size ≤ g) : Below w.heap.size w w' :=
  hb.grown hg hb.size (by rintro k e; cases e; exact hge)

set_option maxHeartbeats 400000 in
theorem fresh_any (id j : Int) (w : World) : Calls Try.prog 12 #[.int .i64 id, .int .u64 j] w fun e w' => e = .returned (.agg (inst id j)) ∧ Below w.heap.size w w' := by
  go_enter Try.func12, Try.ntmps12
  go_wp2_with (refine wpList_store_row rfl 46 (.tmp 4) (.tmp 7) rfl w.heap.size 46 _ (inst id j).toList rfl rfl (heap_alloc_new _ _) rfl i46 rfl ?_)
  intro w1 hg hgr hsz
  have hB := below_fresh hgr
  clear hgr
  go_wp2
  refine bodyPost_ret (results_row rfl _ _ w.heap.size (inst id j).toList _ rfl hg Try.underlying46 rfl i46) rfl ?_
  exact ⟨rfl, hB⟩

set_option maxHeartbeats 400000 in
theorem join_found (h : St w N PM EM lb Z sl j0 m seen nE DP DE) {id : Int} (hid : okI id) (i : Nat) (hi : i < seen.length) (he : seen.getD i 0 = id) (huniq : ∀ k, k < seen.length → seen.getD k 0 = id → k = i) :
    Calls Try.prog 24 #[.pointer (some ⟨N, 0, none⟩), .int .i64 id] w fun e w' => e = .returned (.agg (inst id (ju j0 i))) ∧ Below w.heap.size w w' := by
  have H := hide h
  have HU := hide huniq
  have hm : Hid (id ∈ seen) := by rw [← he]; exact getD_mem hi
  have HI := hide hi
  have HE := hide he
  clear h huniq hi he
  go_enter Try.func24, Try.ntmps24
  go_wp2_with fail
  generalize hW : w.alloc _ = W
  obtain ⟨hB, hl, hlt, -⟩ := fresh_cells hW
  clear hW
  refine (find_row (H.out.below hB) hid).mono ?_
  rintro e w1 ⟨h1, rfl⟩
  rcases h1 with ⟨hn, rfl⟩ | ⟨k, g, cap, hk, ek, rfl, rfl⟩
  · exact absurd hm.out hn
  · obtain rfl := HU.out k hk ek
    obtain ⟨g', cap', e1, hr⟩ := (H.out.below hB).listed (List.ne_nil_of_mem hm.out)
    obtain ⟨rfl, rfl⟩ : g' = g ∧ cap' = cap := by simp at e1; exact ⟨e1.1.symm, e1.2.symm⟩
    have hR := hide (hr k hk)
    rw [ek] at hR
    have HG := hide hl
    clear hr e1 hl
    go_wp2_with (first
      | (refine wpList_load_mid rfl 46 (.tmp 13) rfl _ _ rfl _ _ hR.out Try.underlying46 rfl i46 ?_)
      | (refine wpList_store_row rfl 46 (.tmp 4) (.tmp 14) rfl w.heap.size 46 _ (inst id (ju j0 k)).toList rfl rfl HG.out rfl i46 rfl ?_))
    intro w1 hg hgr hsz
    have hB1 := below_row hB hgr (Nat.le_refl _)
    clear hgr
    go_wp2
    refine bodyPost_ret (results_row rfl _ _ w.heap.size (inst id (ju j0 k)).toList _ rfl hg Try.underlying46 rfl i46) rfl ?_
    exact ⟨rfl, hB1⟩
end Go.Proofs.Qxb6618634a.JoinWalk
