import Derived.Test.Qxb6618634aJoin
namespace Go.Proofs.Qxb6618634a.JoinWalk
open Go.ChangeShapes Go.WideShapes Go.ChangeAt Go.RowKit Go.Maps
set_option linter.unusedVariables false
set_option linter.unusedSimpArgs false

variable {w : World} {N PM EM lb nE : Nat} {Z : Array Value} {sl : Value} {j0 m : Int} {seen : List Int} {DP DE : DataW Unit}

set_option maxHeartbeats 400000 in
theorem zjoin_found (h : St w N PM EM lb Z sl j0 m seen nE DP DE) {id : Int} (hid : okI id) (i : Nat) (hi : i < seen.length) (he : seen.getD i 0 = id) (huniq : ∀ k, k < seen.length → seen.getD k 0 = id → k = i) :
    Calls Try.prog 11 #[.pointer (some ⟨N, 0, none⟩), .int .i64 id] w fun e w' => e = .returned (.agg (inst id (ju j0 i))) ∧ Below w.heap.size w w' := by
  have H := hide h
  have HU := hide huniq
  have HI := hide hi
  have HE := hide he
  clear h huniq hi he
  go_enter Try.func11, Try.ntmps11
  go_wp2_with fail
  generalize hW : w.alloc _ = W
  obtain ⟨hB, hl, hlt, -⟩ := fresh_cells hW
  clear hW
  refine (join_found (H.out.below hB) hid i HI.out HE.out HU.out).mono ?_
  rintro e w1 ⟨rfl, hB1⟩
  have HG := hide (blk (grown_of_below hB1) hl (by simp))
  obtain ⟨j, HJ⟩ : ∃ j, Hid (j = ju j0 i) := ⟨_, rfl⟩
  rw [← HJ.out]
  go_wp2_with (refine wpList_store_row rfl 46 (.tmp 4) (.tmp 7) rfl w.heap.size 46 _ (inst id j).toList rfl rfl HG.out rfl i46 rfl ?_)
  intro w2 hg hgr hsz
  have hB2 := below_row (hB.trans (hB1.mono hB.size)) hgr (Nat.le_refl _)
  clear hgr
  go_wp2
  refine bodyPost_ret (results_row rfl _ _ w.heap.size (inst id j).toList _ rfl hg Try.underlying46 rfl i46) rfl ?_
  exact ⟨by rw [← HJ.out], hB2⟩

set_option maxHeartbeats 400000 in
theorem zjoin_new (h : St w N PM EM lb Z sl j0 m seen nE DP DE) {id : Int} (hid : okI id) (hnew : id ∉ seen) (hlen : seen.length ≤ 65536) :
    Calls Try.prog 11 #[.pointer (some ⟨N, 0, none⟩), .int .i64 id] w fun e w' => e = .returned (.agg (inst id (ju j0 seen.length))) ∧
      ∃ Z' sl' DP', St w' N PM EM lb Z' sl' j0 (max m (seen.length + 1 : Nat)) (seen ++ [id]) nE DP' (DE.del (kl id)) ∧ Kept (XX N PM EM sl) w w' := by
  have H := hide h
  have HN := hide hnew
  have HL := hide hlen
  clear h hnew hlen
  go_enter Try.func11, Try.ntmps11
  go_wp2_with fail
  generalize hW : w.alloc _ = W
  obtain ⟨hB, hl, hlt, -⟩ := fresh_cells hW
  clear hW
  refine (join_new (H.out.below hB) hid HN.out HL.out).mono ?_
  rintro e w1 ⟨rfl, Z', sl', DP', hS, hK, hnil⟩
  have hR : ¬ XX N PM EM sl w.heap.size := by
    have h1 := lt_of_some H.out.hN
    have h2 := H.out.hP.lt
    have h3 := H.out.hE.lt
    rintro (h | h | h | h)
    · omega
    · omega
    · omega
    · have := (H.out.hL.lt _ h).2; omega
  have hl1 : w1.heap[w.heap.size]? = _ := (hK.block w.heap.size hlt hR).trans hl
  have HG := hide hl1
  have HS := hide hS
  have KK : Hid (Kept (XX N PM EM sl) w w1) := ⟨hK.os.trans hB.os, hK.tape.trans hB.tape, hK.output.trans hB.output, Nat.le_trans hB.size hK.size, fun k hk hx => (hK.block k (Nat.lt_of_lt_of_le hk hB.size) hx).trans (hB.block k hk)⟩
  have nL : Hid (sl'.ownBlock ≠ some w.heap.size) := by
    by_cases hs : seen = []
    · intro e
      have := hnil hs _ e
      omega
    · have h1 : 0 < seen.length := List.length_pos_iff.2 hs
      exact list_ne_row hS.hL (by simp; omega) hl1 rfl
  clear hS hl1 hl hnil
  obtain ⟨j, HJ⟩ : ∃ j, Hid (j = ju j0 seen.length) := ⟨_, rfl⟩
  rw [← HJ.out]
  go_wp2_with (refine wpList_store_row rfl 46 (.tmp 4) (.tmp 7) rfl w.heap.size 46 _ (inst id j).toList rfl rfl HG.out rfl i46 rfl ?_)
  intro w2 hg hgr hsz
  have hNne : some N ≠ some w.heap.size := by have := lt_of_some H.out.hN; simp; omega
  have KF : Kept (XX N PM EM sl) w w2 := KK.out.grown hgr (by rintro r e; cases e; exact .inl (Nat.le_refl _))
  have SF : St w2 N PM EM lb Z' sl' j0 (max m (seen.length + 1 : Nat)) (seen ++ [id]) nE DP' (DE.del (kl id)) :=
    { HS.out with
      hN := blk hgr HS.out.hN hNne
      hP := HS.out.hP.kept hgr (by have := H.out.hP.lt; simp; omega)
      hE := HS.out.hE.kept hgr (by have := H.out.hE.lt; simp; omega)
      hL := HS.out.hL.kept hgr (.inr nL.out)
      le := Nat.le_trans HS.out.le hgr.size }
  have HSF := hide SF
  have HKF := hide KF
  clear hgr SF KF
  go_wp2
  refine bodyPost_ret (results_row rfl _ _ w.heap.size (inst id j).toList _ rfl hg Try.underlying46 rfl i46) rfl ?_
  exact ⟨by rw [← HJ.out], Z', sl', DP', HSF.out, HKF.out⟩
end Go.Proofs.Qxb6618634a.JoinWalk
