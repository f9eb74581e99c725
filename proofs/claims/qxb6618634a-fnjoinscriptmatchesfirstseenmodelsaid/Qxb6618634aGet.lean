import Derived.Test.Qxb6618634aFind
import Derived.Deep.RegionHeld3
namespace Go.Proofs.Qxb6618634a.JoinWalk
open Go.ChangeShapes Go.WideShapes Go.ChangeAt Go.RowKit Go.Maps
set_option linter.unusedVariables false
set_option linter.unusedSimpArgs false

variable {w : World} {N PM EM lb nE : Nat} {Z : Array Value} {sl : Value} {j0 m : Int} {seen : List Int} {DP DE : DataW Unit}

theorem slice_shape {w : World} {base n s : Nat} {e : TypeId} {sl : Value} {xs : List Value} (hk : w.ownsRow base e s sl n xs) : ∃ ao cap, sl = .slice ao n cap := by
  obtain ⟨_, ⟨rfl, rfl⟩ | ⟨g, cap, cur, rfl, _⟩⟩ := hk
  · exact ⟨none, 0, rfl⟩
  · exact ⟨some ⟨g, 0, none⟩, cap, rfl⟩

set_option maxHeartbeats 400000 in
theorem listLen_row (h : St w N PM EM lb Z sl j0 m seen nE DP DE) : Calls Try.prog 13 #[.pointer (some ⟨N, 0, none⟩)] w fun e w' => e = .returned (.int .i64 (seen.length : Nat)) ∧ w = w' := by
  have c0 := h.cell h.z0
  obtain ⟨ao, cap, rfl⟩ := slice_shape h.hL
  go_enter Try.func13, Try.ntmps13
  go_wp2
  go_ret
  exact ⟨rfl, rfl⟩

set_option maxHeartbeats 400000 in
theorem posLen_row (h : St w N PM EM lb Z sl j0 m seen nE DP DE) : Calls Try.prog 14 #[.pointer (some ⟨N, 0, none⟩)] w fun e w' => e = .returned (.int .i64 (seen.length : Nat)) ∧ w = w' := by
  have c1 := h.cell h.z1
  have e1 := h.rP.2.2
  have H := hide h
  clear h
  go_enter Try.func14, Try.ntmps14
  go_wp2_with (at_len; refine wpList_len_own _ rfl _ 63 rfl 2 3 under63 _ PM seen.length DP rfl H.out.hP ?_)
  go_ret
  exact ⟨by rw [← e1]; rfl, rfl⟩

set_option maxHeartbeats 400000 in
theorem expLen_row (h : St w N PM EM lb Z sl j0 m seen nE DP DE) : Calls Try.prog 20 #[.pointer (some ⟨N, 0, none⟩)] w fun e w' => e = .returned (.int .i64 (Maps.size DE : Nat)) ∧ w = w' := by
  have c1 := h.cell h.z45
  have H := hide h
  clear h
  go_enter Try.func20, Try.ntmps20
  go_wp2_with (at_len; refine wpList_len_own _ rfl _ 64 rfl 2 46 under64 _ EM nE DE rfl H.out.hE ?_)
  go_ret
  exact ⟨rfl, rfl⟩

set_option maxHeartbeats 400000 in
theorem next_row (h : St w N PM EM lb Z sl j0 m seen nE DP DE) : Calls Try.prog 17 #[.pointer (some ⟨N, 0, none⟩)] w fun e w' => e = .returned (.int .u64 (ju j0 seen.length)) ∧ w = w' := by
  have c1 := h.cell h.z2
  obtain ⟨j, hj⟩ : ∃ j, Hid (j = ju j0 seen.length) := ⟨_, rfl⟩
  rw [← hj.out] at c1 ⊢
  clear h
  go_enter Try.func17, Try.ntmps17
  go_wp2
  go_ret
  exact ⟨rfl, rfl⟩

set_option maxHeartbeats 400000 in
theorem most_row (h : St w N PM EM lb Z sl j0 m seen nE DP DE) : Calls Try.prog 18 #[.pointer (some ⟨N, 0, none⟩)] w fun e w' => e = .returned (.int .i64 m) ∧ w = w' := by
  have c1 := h.cell h.z3
  clear h
  go_enter Try.func18, Try.ntmps18
  go_wp2
  go_ret
  exact ⟨rfl, rfl⟩

set_option maxHeartbeats 400000 in
theorem pos_row (h : St w N PM EM lb Z sl j0 m seen nE DP DE) (i : Nat) (hi : i < seen.length) (hid : okI (seen.getD i 0)) : Calls Try.prog 16 #[.pointer (some ⟨N, 0, none⟩), .int .i64 (seen.getD i 0)] w fun e w' => e = .returned (.tuple #[.int .i64 (i : Nat), .bool true]) ∧ w = w' := by
  have c1 := h.cell h.z1
  obtain ⟨c, hrun, hc⟩ := h.look hid
  obtain rfl := hc i hi rfl
  have hd : decide (seen.getD i 0 ∈ seen) = true := by simpa using getD_mem hi
  rw [hd] at hrun
  clear hd hc h
  generalize seen.getD i 0 = id at *
  go_enter Try.func16, Try.ntmps16
  go_wp2
  go_ret2
  exact ⟨rfl, rfl⟩

theorem i66 : (Try.prog.info? 66).map (·.size) = some 19 := by kernel_rfl
theorem i56 : (Try.prog.info? 56).map (·.size) = some 19 := by kernel_rfl

set_option maxHeartbeats 400000 in
theorem weights_row (h : St w N PM EM lb Z sl j0 m seen nE DP DE) : Calls Try.prog 21 #[.pointer (some ⟨N, 0, none⟩)] w fun e w' => e = .returned (.agg (List.replicate 19 (Value.int .u64 0)).toArray) ∧ Below w.heap.size w w' := by
  have H := hide h
  clear h
  go_enter Try.func21, Try.ntmps21
  have hr : Hid (∀ o, (w.alloc o).rangeAt N 7 (List.replicate 19 (Value.int .u64 0))) := by
    intro o c v hv
    obtain ⟨hc, e⟩ := List.getElem?_eq_some_iff.1 hv
    simp only [List.length_replicate] at hc
    simp only [List.getElem_replicate] at e
    subst e
    rw [World.cell?_alloc_past _ _ _ (lt_of_some H.out.hN)]
    exact H.out.cell (H.out.zz (7 + c) (by omega) (by omega))
  go_wp2_with (first
    | (refine wpList_load_mid rfl 66 (.tmp 5) rfl _ _ rfl _ _ (hr.out _) Try.underlying66 rfl i66 ?_)
    | (refine wpList_store_row rfl 56 (.tmp 2) (.tmp 6) rfl w.heap.size 56 _ (List.replicate 19 (Value.int .u64 0)) rfl rfl (heap_alloc_new _ _) rfl i56 rfl ?_))
  intro w1 hg hgr hsz
  have hB := below_fresh hgr
  clear hgr
  go_wp2
  refine bodyPost_ret (results_row rfl _ _ w.heap.size (List.replicate 19 (Value.int .u64 0)) _ rfl hg Try.underlying56 rfl i56) rfl ?_
  exact ⟨rfl, hB⟩

set_option maxHeartbeats 400000 in
theorem listAt_row (h : St w N PM EM lb Z sl j0 m seen nE DP DE) (i : Nat) (hi : i < seen.length) : Calls Try.prog 15 #[.pointer (some ⟨N, 0, none⟩), .int .i64 (i : Nat)] w fun e w' => e = .returned (.agg (inst (seen.getD i 0) (ju j0 i))) ∧ Below w.heap.size w w' := by
  have H := hide h
  clear h
  go_enter Try.func15, Try.ntmps15
  obtain ⟨g, cap, esl, hr⟩ := H.out.listed (by intro e; rw [e] at hi; simp at hi)
  have c0 := H.out.cell H.out.z0
  have hR : Hid (∀ o, (w.alloc o).rangeAt g (i * 30) (inst (seen.getD i 0) (ju j0 i)).toList) := by
    intro o c v hv
    have h1 := hr i hi c v hv
    rw [World.cell?_alloc_past _ _ _ (block_lt_of_cell h1)]
    exact h1
  have hlt := lt_of_some H.out.hN
  have nw := World.new_ne w ⟨N, 0, none⟩ c0
  subst esl
  have hi2 : (i : Int) < (seen.length : Int) := by omega
  generalize seen.getD i 0 = id at *
  generalize ju j0 i = j at *
  clear hr
  go_wp2_with (first
    | (refine wpList_load_mid rfl 46 (.tmp 10) rfl _ _ rfl _ _ (hR.out _) Try.underlying46 rfl i46 ?_)
    | (refine wpList_store_row rfl 46 (.tmp 4) (.tmp 11) rfl w.heap.size 46 _ (inst id j).toList rfl rfl (heap_alloc_new _ _) rfl i46 rfl ?_))
  intro w1 hg hgr hsz
  have hB := below_fresh hgr
  clear hgr
  go_wp2
  refine bodyPost_ret (results_row rfl _ _ w.heap.size (inst id j).toList _ rfl hg Try.underlying46 rfl i46) rfl ?_
  exact ⟨rfl, hB⟩

set_option maxHeartbeats 400000 in
theorem expHas_row (h : St w N PM EM lb Z sl j0 m seen nE DP DE) {id : Int} (hid : okI id) : Calls Try.prog 19 #[.pointer (some ⟨N, 0, none⟩), .int .i64 id] w fun e w' => e = .returned (.bool (Maps.has DE (kl id))) ∧ Below w.heap.size w w' := by
  have H := hide h
  have c1 := h.cell h.z45
  obtain ⟨v, ps, hrun, hv⟩ := h.hE.look_ok law2 under64 (zero46 w) (R46_mk (Z := inst 0 0) rfl rfl) (kl_key hid)
  obtain ⟨cs, rfl, h30, hone⟩ := R46_inv hv
  generalize Maps.has DE (kl id) = bb at *
  have HI : Hid ((Try.prog.info? 46).map (·.size) = some cs.length) := by rw [h30]; exact i46
  have H3 : Hid (cs.length = 30) := h30
  have HO := hide hone
  clear h hv h30 hone
  go_enter Try.func19, Try.ntmps19
  go_wp2_with (refine wpList_store_row rfl 46 (.tmp 5) (.tmp 14) rfl w.heap.size 46 _ cs rfl rfl (heap_alloc_new _ _) H3.out.symm HI.out HO.out ?_)
  intro w1 hg hgr hsz
  have hB := below_fresh hgr
  clear hgr
  go_wp2
  go_ret
  exact ⟨rfl, hB⟩
end Go.Proofs.Qxb6618634a.JoinWalk
