import Derived.Test.Qxb6618634aKept
namespace Go.Proofs.Qxb6618634a.JoinWalk
open Go.ChangeShapes Go.WideShapes Go.ChangeAt Go.RowKit Go.Maps
set_option linter.unusedVariables false
set_option linter.unusedSimpArgs false

variable {w : World} {N PM EM lb nE : Nat} {Z : Array Value} {sl : Value} {j0 m : Int} {seen : List Int} {DP DE : DataW Unit}

theorem inst_eq (id j : Int) : inst id j = #[.int .i64 id, .float .f64 0, .int .u64 0, .int .i64 0, .pointer none, .string ⟨#[]⟩, .int .i64 0, .float .f64 0, .float .f64 0, .float .f64 0, .float .f64 0, .float .f64 0, .float .f64 0, .float .f64 0, .float .f64 0, .float .f64 0, .float .f64 0, .float .f64 0, .float .f64 0, .int .u64 0, .int .i64 0, .pointer none, .int .u64 j, .bool false, .bool false, .float .f64 0, .int .u64 0, .int .i64 0, .pointer none, .float .f64 0] := rfl
theorem step_load {P : Program} {ops : Array Oper} {o : Oper} {a : Act} {w : World} {v : Value} {K : Act → World → Prop} {Q : Exit → Act → World → Prop} {E : Prop} (hg : o.guard = none) (ty : TypeId) (x : Operand) (ho : o.op = .load ty x) (p : Value) (hx : a.eval x = p) (hl : (Instr.loadAt ty p).run P w = .ok v w) (hK : K (a.put o.dst v) w) : if Region.wanted o (yielded ops a.tmps) = true then Oper.wp P o a w K Q else E :=
  step_val (by simp [Region.wanted, hg]) (exec_load ty x ho p hx hl) hK
theorem step_build {P : Program} {ops : Array Oper} {o : Oper} {a : Act} {w w' : World} {v : Value} {K : Act → World → Prop} {Q : Exit → Act → World → Prop} {E : Prop} (hg : o.guard = none) (ty : TypeId) (x : Operand) (ho : o.op = .buildSlice ty 1 #[(0, x)]) (p : Value) (hx : a.eval x = p) (hl : (Instr.buildSlice ty 1 #[(0, p)]).run P w = .ok v w') (hK : K (a.put o.dst v) w') : if Region.wanted o (yielded ops a.tmps) = true then Oper.wp P o a w K Q else E :=
  step_val (by simp [Region.wanted, hg]) (exec_build1 ty x ho p hx hl) hK

set_option maxRecDepth 100000 in
set_option maxHeartbeats 8000000 in
theorem join_new (h : St w N PM EM lb Z sl j0 m seen nE DP DE) {id : Int} (hid : okI id) (hnew : id ∉ seen) (hlen : seen.length ≤ 65536) :
    Calls Try.prog 24 #[.pointer (some ⟨N, 0, none⟩), .int .i64 id] w fun e w' => e = .returned (.agg (inst id (ju j0 seen.length))) ∧
      ∃ Z' sl' DP', St w' N PM EM lb Z' sl' j0 (max m (seen.length + 1 : Nat)) (seen ++ [id]) nE DP' (DE.del (kl id)) ∧ Kept (XX N PM EM sl) w w' ∧ (seen = [] → ∀ k, sl'.ownBlock = some k → w.heap.size < k) := by
  have H := hide h
  have HN := hide hnew
  have HL := hide hlen
  clear h hnew hlen
  go_enter Try.func24, Try.ntmps24
  go_wp2_with fail
  generalize hW : w.alloc _ = W
  obtain ⟨hB, hl, hlt, -⟩ := fresh_cells hW
  clear hW
  refine (find_row (H.out.below hB) hid).mono ?_
  rintro e w1 ⟨h1, rfl⟩
  rcases h1 with ⟨hn, rfl⟩ | ⟨k, g, cap, hk, ek, rfl, rfl⟩
  rotate_left
  · exact absurd (by rw [← ek]; exact getD_mem hk) HN.out
  · have HG := hide hl
    have S1 := hide (H.out.below hB)
    have c45 := S1.out.cell S1.out.z45
    have HB := hide hB
    clear hl hn hB
    go_wp2_with (at_delete; refine wpList_delete_own _ rfl _ _ 64 2 rfl 46 law2 under64 R46 EM nE DE rfl S1.out.hE _ _ rfl (kl_key hid) ?_)
    intro w2 hE2 ht2
    have hg2 := ht2.grown
    have nE1 := map_ne_row S1.out.hE S1.out.hN
    have nE2 := map_ne_row S1.out.hE HG.out
    have hN2 := hide (blk hg2 S1.out.hN (by simpa using fun e => nE1 e.symm))
    have hR2 := hide (blk hg2 HG.out (by simpa using fun e => nE2 e.symm))
    have hP2 := hide (S1.out.hP.kept hg2 (by simpa using S1.out.ne))
    have hL2 := hide (S1.out.hL.kept hg2 (map_ne_list S1.out.hE S1.out.hL))
    have K2 : Hid (Kept (XX N PM EM sl) w w2) := ((Kept.refl (XX N PM EM sl) w).below HB.out).grown hg2 (by rintro r e; cases e; exact .inr (.inr (.inr (.inl rfl))))
    have HE2 := hide hE2
    have sz2 := hide (Nat.lt_of_lt_of_le hlt hg2.size)
    clear hE2 ht2 hg2 nE1 nE2 c45
    have c2 := row_cell hN2.out S1.out.z2
    obtain ⟨j, HJ⟩ : ∃ j, Hid (j = ju j0 seen.length) := ⟨_, rfl⟩
    rw [← HJ.out] at c2
    go_wp2_with (refine wpList_store_row rfl 46 (.tmp 6) (.tmp 25) rfl w2.heap.size 46 _ (inst id j).toList rfl rfl (heap_alloc_new _ _) rfl i46 rfl ?_)
    intro w3 hB3 hg3 hs3
    rw [← inst_eq id j]
    generalize Value.agg (inst id j) = y25
    have b3 := below_fresh hg3
    have HB3 := hide hB3
    have hN3 := hide (blk (grown_of_below b3) hN2.out (by simp))
    have hR3 := hide (blk (grown_of_below b3) hR2.out (by simp))
    have hP3 := hide (ownsMap_below hP2.out b3)
    have hE3 := hide (ownsMap_below HE2.out b3)
    have hL3 := hide (hL2.out.kept (grown_of_below b3) (by cases sl.ownBlock <;> simp))
    have K3 := hide (K2.out.below b3)
    have lt3 := hide (lt_of_some hB3)
    have ne3 := hide (show w2.heap.size ≠ w.heap.size from Nat.ne_of_gt sz2.out)
    clear hB3 hg3 b3 c2
    obtain ⟨w4, hrun, hP4, hg4⟩ := (hP3.out.drew).update law2 under63 (by unfold maxLen; have := HL.out; omega) (kl_key hid) (val := .int .i64 (seen.length : Nat)) (plainElem_int Try.underlying3 (wf_nat HL.out))
    have c0 := row_cell hN3.out S1.out.z0
    have c1 := row_cell hN3.out S1.out.z1
    have nP1 := map_ne_row hP3.out hN3.out
    have nP2 := map_ne_row hP3.out hR3.out
    have nP3 := map_ne_row hP3.out HB3.out
    have hN3d : w3.drew.heap[N]? = _ := hN3.out
    have hR3d : w3.drew.heap[w.heap.size]? = _ := hR3.out
    have hB3d : w3.drew.heap[w2.heap.size]? = _ := HB3.out
    have hN4 := hide (blk hg4 hN3d (by simpa using fun e => nP1 e.symm))
    have hR4 := hide (blk hg4 hR3d (by simpa using fun e => nP2 e.symm))
    have hB4 := hide (blk hg4 hB3d (by simpa using fun e => nP3 e.symm))
    have HP4 := hide hP4
    have hE4 := hide (hE3.out.drew.kept hg4 (by simpa using fun e => S1.out.ne e.symm))
    have hL4 := hide (hL3.out.drew.kept hg4 (map_ne_list hP3.out hL3.out))
    have K4 : Hid (Kept (XX N PM EM sl) w w4) := K3.out.drew.grown hg4 (by rintro r e; cases e; exact .inr (.inr (.inl rfl)))
    have le4 : Hid (w3.heap.size ≤ w4.heap.size) := hg4.size
    obtain ⟨ao, cap, esl⟩ := slice_form hL4.out
    rw [esl] at c0
    have d0 := row_cell hN4.out S1.out.z0
    rw [esl] at d0
    have d1 := row_cell hN4.out S1.out.z1
    have ESL := hide esl
    clear nP1 nP2 nP3 hN3d hR3d hB3d hP4 hg4 esl
    go_wp2_with fail
    go_region_held3 (fun w' => w'.cell? ⟨N, 0, none⟩ = some (.slice ao seen.length cap) ∧ w'.cell? ⟨N, 1, none⟩ = some (.map (some PM))) (go_keep) (fail)
    clear hrun c0 c1
    go_wp2_with fail
    -- the list's turn
    obtain ⟨i0, hi0, hz0, hz1, hz2⟩ := info_parts info46
    have hL4d : (w4.drew.alloc (.cells (inst id j) 46 (0, 0))).ownsRow lb 46 30 (.slice ao seen.length cap) seen.length (rows j0 seen 0) := by rw [← ESL.out]; exact hL4.out.drew.alloc _
    have hsz4 : w.heap.size < w4.heap.size := by have h1 := hlt; have h2 := sz2.out; have h3 := lt3.out; have h4 := le4.out; omega
    obtain ⟨bs, hbs1, hbs2, hbs3, hbs4⟩ : ∃ bs, lb ≤ bs ∧ bs ≤ (w4.drew.alloc (.cells (inst id j) 46 (0, 0))).heap.size ∧ (w4.drew.alloc (.cells (inst id j) 46 (0, 0))).ownsRow bs 46 30 (.slice ao seen.length cap) seen.length (rows j0 seen 0) ∧ (seen = [] → w.heap.size < bs) := by
      by_cases hs : seen = []
      · have e1 := S1.out.nilL hs
        rw [ESL.out] at e1
        refine ⟨(w4.drew.alloc (.cells (inst id j) 46 (0, 0))).heap.size, by have h1 := H.out.le; simp; omega, Nat.le_refl _, ?_, fun _ => by simp; omega⟩
        rw [e1, hs]
        exact World.ownsRow_nil _ _ _ _
      · exact ⟨lb, Nat.le_refl _, by have h1 := H.out.le; simp; omega, hL4d, fun e => absurd e hs⟩
    obtain ⟨v5, w5, hrun5, hL5b, hg5, hnil⟩ := run_append_own (P := Try.prog) (w4.drew.alloc (.cells (inst id j) 46 (0, 0))) bs 65 65 46 i0 (.agg (inst 0 0)) 30 240 under65 hi0 hz0 hz1 hz2 rfl (by decide) (.slice ao seen.length cap) seen.length _ hbs3 ⟨w4.heap.size, 0, none⟩ 1 1 (inst id j).toList rfl
      (fun k u hu => by rw [Addr.add_mid]; exact range_row (heap_alloc_new _ _) k u hu) (inst_one id j) (by unfold maxLen; have := HL.out; omega) (by have := HL.out; omega) hbs2
    have HLT : Hid (∀ k, v5.ownBlock = some k → bs ≤ k) := fun k e => (hL5b.lt k e).1
    have HBS := hide hbs4
    have hL5 := ownsRow_weaken hL5b hbs1
    clear hL5b hbs2 hbs3 hbs4 hsz4
    obtain ⟨ao5, cap5, rfl⟩ := slice_form hL5
    have hN4d : w4.drew.heap[N]? = _ := hN4.out
    have hfar : some N ≠ (Value.slice ao seen.length cap).ownBlock := by
      intro e
      have h1 := (hL4.out.lt N (by rw [ESL.out]; exact e.symm)).1
      have h2 := S1.out.lt
      omega
    have hN5 := hide (blk hg5 (blk (World.grownBy_alloc w4.drew _ none) hN4d (by simp)) hfar)
    have e0 := row_cell hN5.out S1.out.z0
    have f0 := row_frozen (o := 0) hN5.out
    rw [ESL.out] at e0
    have ld' : (w4.alloc (.cells (inst id j) 46 (0, 0))).cell? ⟨N, 0, none⟩ = some (.slice ao seen.length cap) := by
      rw [World.cell?_alloc_past _ _ _ (lt_of_some hN4.out)]; exact d0
    have HR5 : Hid ((Builtin.append_ #[65, 65] 65 #[.slice ao seen.length cap, .slice (some ⟨w4.heap.size, 0, none⟩) 1 1]).run Try.prog (w4.alloc (.cells (inst id j) 46 (0, 0))).drew = .ok (.slice ao5 (seen.length + 1) cap5) w5) := hrun5
    have hrow : w4.drew.rangeAt w2.heap.size 0 (inst id j).toList := range_row (w := w4.drew) hB4.out
    have hb1 := build1 id j w4.drew
    have l46 : (Instr.loadAt 46 (.pointer (some ⟨w2.heap.size, 0, none⟩))).run Try.prog w4.drew = .ok (.agg (inst id j)) w4.drew := run_loadAt_mid w4.drew _ _ 46 _ _ hrow Try.underlying46 rfl i46
    have nw := World.new_ne w4 ⟨N, 0, none⟩ d0
    clear hrun5
    apply wp_via (W := w5.setCell ⟨N, 0, none⟩ (.slice ao5 (seen.length + 1) cap5))
    · refine wp_region_any (by kernel_rfl) ?_
      change wpAny _ _ _ _ _ _ _ (World.drew _)
      refine wpAny_take (i := 0) (v := .pointer (some ⟨N, 0, none⟩)) rfl (by kernel_rfl) (by kernel_rfl) (by kernel_rfl) (fun _ _ _ h => h) (Or.inl ⟨by rfl, fun w => by go_simp⟩) ?_
      refine wpAny_take (i := 1) (v := .pointer (some ⟨N, 0, none⟩)) rfl (by kernel_rfl) (by kernel_rfl) (by kernel_rfl) (fun _ _ _ h => h) (Or.inl ⟨by rfl, fun w => by go_simp⟩) ?_
      refine wpAny_take (i := 2) (v := .pointer (some ⟨N, 0, none⟩)) rfl (by kernel_rfl) (by kernel_rfl) (by kernel_rfl) (fun _ _ _ h => h) (Or.inl ⟨by rfl, fun w => by go_simp⟩) ?_
      refine wpAny_take (i := 3) (v := .pointer (some ⟨N, 0, none⟩)) rfl (by kernel_rfl) (by kernel_rfl) (by kernel_rfl) (fun _ _ _ h => h) (Or.inl ⟨by rfl, fun w => by go_simp⟩) ?_
      refine wpAny_ready (rs := [4, 5]) (by kernel_rfl) (by simp) (AllReady.cons rfl (fun K hK => ?_) (AllReady.cons rfl (fun K hK => ?_) AllReady.nil))
      · go_simp
        refine hK _ _ ?_
        clear hK K
        refine wpAny_ready (rs := [5]) (by kernel_rfl) (by simp) (AllReady.cons rfl (fun K hK => ?_) AllReady.nil)
        refine step_load rfl 46 (.tmp 6) rfl _ rfl l46 ?_
        go_simp
        refine hK _ _ ?_
        clear hK K
        refine wpAny_ready (rs := [6]) (by kernel_rfl) (by simp) (AllReady.cons rfl (fun K hK => ?_) AllReady.nil)
        refine step_build rfl 65 (.tmp 41) rfl _ rfl hb1 ?_
        go_simp
        refine hK _ _ ?_
        clear hK K
        refine wpAny_ready (rs := [7]) (by kernel_rfl) (by simp) (AllReady.cons rfl (fun K hK => ?_) AllReady.nil)
        refine step_append_run rfl (.tmp 40) (.tmp 42) 65 rfl (.slice ao seen.length cap) (.slice (some ⟨w4.heap.size, 0, none⟩) 1 1) rfl rfl HR5.out ?_
        go_simp
        refine hK _ _ ?_
        clear hK K
        refine wpAny_ready (rs := [8]) (by kernel_rfl) (by simp) (AllReady.cons rfl (fun K hK => ?_) AllReady.nil)
        go_simp
        refine hK _ _ ?_
        clear hK K
        refine wpAny_ready (rs := [9]) (by kernel_rfl) (by simp) (AllReady.cons rfl (fun K hK => ?_) AllReady.nil)
        go_simp
        refine hK _ _ ?_
        clear hK K
        refine wpAny_ready (rs := [10]) (by kernel_rfl) (by simp) (AllReady.cons rfl (fun K hK => ?_) AllReady.nil)
        go_simp
        refine hK _ _ ?_
        clear hK K
        refine wpAny_done (by kernel_rfl) ?_ _
        exact ⟨rfl, rfl⟩
      · refine step_load rfl 46 (.tmp 6) rfl _ rfl l46 ?_
        go_simp
        refine hK _ _ ?_
        clear hK K
        refine wpAny_ready (rs := [4, 6]) (by kernel_rfl) (by simp) (AllReady.cons rfl (fun K hK => ?_) (AllReady.cons rfl (fun K hK => ?_) AllReady.nil))
        · go_simp
          refine hK _ _ ?_
          clear hK K
          refine wpAny_ready (rs := [6]) (by kernel_rfl) (by simp) (AllReady.cons rfl (fun K hK => ?_) AllReady.nil)
          refine step_build rfl 65 (.tmp 41) rfl _ rfl hb1 ?_
          go_simp
          refine hK _ _ ?_
          clear hK K
          refine wpAny_ready (rs := [7]) (by kernel_rfl) (by simp) (AllReady.cons rfl (fun K hK => ?_) AllReady.nil)
          refine step_append_run rfl (.tmp 40) (.tmp 42) 65 rfl (.slice ao seen.length cap) (.slice (some ⟨w4.heap.size, 0, none⟩) 1 1) rfl rfl HR5.out ?_
          go_simp
          refine hK _ _ ?_
          clear hK K
          refine wpAny_ready (rs := [8]) (by kernel_rfl) (by simp) (AllReady.cons rfl (fun K hK => ?_) AllReady.nil)
          go_simp
          refine hK _ _ ?_
          clear hK K
          refine wpAny_ready (rs := [9]) (by kernel_rfl) (by simp) (AllReady.cons rfl (fun K hK => ?_) AllReady.nil)
          go_simp
          refine hK _ _ ?_
          clear hK K
          refine wpAny_ready (rs := [10]) (by kernel_rfl) (by simp) (AllReady.cons rfl (fun K hK => ?_) AllReady.nil)
          go_simp
          refine hK _ _ ?_
          clear hK K
          refine wpAny_done (by kernel_rfl) ?_ _
          exact ⟨rfl, rfl⟩
        · refine step_build rfl 65 (.tmp 41) rfl _ rfl hb1 ?_
          go_simp
          refine hK _ _ ?_
          clear hK K
          refine wpAny_ready (rs := [4]) (by kernel_rfl) (by simp) (AllReady.cons rfl (fun K hK => ?_) AllReady.nil)
          go_simp
          refine hK _ _ ?_
          clear hK K
          refine wpAny_ready (rs := [7]) (by kernel_rfl) (by simp) (AllReady.cons rfl (fun K hK => ?_) AllReady.nil)
          refine step_append_run rfl (.tmp 40) (.tmp 42) 65 rfl (.slice ao seen.length cap) (.slice (some ⟨w4.heap.size, 0, none⟩) 1 1) rfl rfl HR5.out ?_
          go_simp
          refine hK _ _ ?_
          clear hK K
          refine wpAny_ready (rs := [8]) (by kernel_rfl) (by simp) (AllReady.cons rfl (fun K hK => ?_) AllReady.nil)
          go_simp
          refine hK _ _ ?_
          clear hK K
          refine wpAny_ready (rs := [9]) (by kernel_rfl) (by simp) (AllReady.cons rfl (fun K hK => ?_) AllReady.nil)
          go_simp
          refine hK _ _ ?_
          clear hK K
          refine wpAny_ready (rs := [10]) (by kernel_rfl) (by simp) (AllReady.cons rfl (fun K hK => ?_) AllReady.nil)
          go_simp
          refine hK _ _ ?_
          clear hK K
          refine wpAny_done (by kernel_rfl) ?_ _
          exact ⟨rfl, rfl⟩
    · as_aux_lemma =>
      have hg6 := grown_setCell w5 ⟨N, 0, none⟩ (.slice ao5 (seen.length + 1) cap5)
      have hN6 := hide (row_setCell (o := 0) hN5.out (.slice ao5 (seen.length + 1) cap5))
      generalize w5.setCell ⟨N, 0, none⟩ (.slice ao5 (seen.length + 1) cap5) = w6 at *
      have hgm : w4.grownBy (w4.drew.alloc (.cells (inst id j) 46 (0, 0))) none := ⟨rfl, rfl, rfl, by simp, fun k hk _ => Below.heap_alloc w4.drew _ k hk⟩
      have ltN := lt_of_some H.out.hN
      have nsl : ∀ k, w.heap.size ≤ k → some k ≠ (Value.slice ao seen.length cap).ownBlock := by
        intro k hk e
        have := (H.out.hL.lt k (by rw [ESL.out]; exact e.symm)).2
        omega
      have nN : ∀ k, w.heap.size ≤ k → some k ≠ some N := by intro k hk e; cases e; omega
      have hR6 := hide (blk hg6 (blk hg5 (blk hgm hR4.out (by simp)) (nsl _ (Nat.le_refl _))) (nN _ (Nat.le_refl _)))
      have hB6 := hide (blk hg6 (blk hg5 (blk hgm hB4.out (by simp)) (nsl _ (Nat.le_of_lt sz2.out))) (nN _ (Nat.le_of_lt sz2.out)))
      have nm : ∀ {b : Nat}, ((Value.slice ao seen.length cap).ownBlock = none ∨ (Value.slice ao seen.length cap).ownBlock ≠ some b) → some b ≠ (Value.slice ao seen.length cap).ownBlock := by
        rintro b (h | h) e
        · rw [h] at e; cases e
        · exact h e.symm
      have hL4' := hL4.out
      rw [ESL.out] at hL4'
      have hP6 := hide (((HP4.out.kept hgm (by simp)).kept hg5 (nm (map_ne_list HP4.out hL4'))).kept hg6 (by simpa using map_ne_row HP4.out hN4.out))
      have hE6 := hide (((hE4.out.kept hgm (by simp)).kept hg5 (nm (map_ne_list hE4.out hL4'))).kept hg6 (by simpa using map_ne_row hE4.out hN4.out))
      have hL6 := hide (hL5.kept hg6 (.inr (by intro e; have h1 := (hL5.lt N e).1; have h2 := S1.out.lt; omega)))
      have K6 : Hid (Kept (XX N PM EM sl) w w6) := ((K4.out.grown hgm (by simp)).grown hg5 (by rintro r e; exact .inr (.inr (.inr (.inr (by rw [ESL.out]; exact e)))))).grown hg6 (by rintro r e; cases e; exact .inr (.inl rfl))
      clear ld' nw hb1 l46 hrow e0 f0 hnil nsl nN nm hfar hN4d hL4d hgm hL4' hg5 hg6 d0 d1 hz0 hz1 hz2
      have HZ6 : Hid (∀ k, k ≠ 0 → (Z.setIfInBounds 0 (.slice ao5 (seen.length + 1) cap5))[k]? = Z[k]?) := fun k hk => Array.getElem?_setIfInBounds_ne (by omega)
      have HZ60 : Hid ((Z.setIfInBounds 0 (.slice ao5 (seen.length + 1) cap5))[0]? = some (.slice ao5 (seen.length + 1) cap5)) := by
        have := S1.out.zs
        show _ = _
        rw [Array.getElem?_setIfInBounds_self_of_lt (by omega)]
      have HZ6s : Hid ((Z.setIfInBounds 0 (.slice ao5 (seen.length + 1) cap5)).size = 48) := by show _ = _; rw [Array.size_setIfInBounds]; exact S1.out.zs
      generalize Z.setIfInBounds 0 (.slice ao5 (seen.length + 1) cap5) = Z6 at *
      go_wp2_with (refine wpList_load_mid rfl 46 (.tmp 6) rfl _ _ rfl _ _ (range_row hB6.out) Try.underlying46 rfl i46 ?_)
      refine (count0 N id j Z6 69 w6 hN6.out (by rw [HZ6.out 7 (by omega)]; exact S1.out.zz 7 (by omega) (by omega)) (by rw [HZ6.out 8 (by omega)]; exact S1.out.zz 8 (by omega) (by omega)) (by rw [HZ6.out 26 (by omega)]; exact S1.out.zz 26 (by omega) (by omega)) (by rw [HZ6.out 27 (by omega)]; exact S1.out.zz 27 (by omega) (by omega))).mono ?_
      rintro e w7 ⟨rfl, hb7⟩
      as_aux_lemma =>
      have hN7 := hide (blk (grown_of_below hb7) hN6.out (by simp))
      have hR7 := hide (blk (grown_of_below hb7) hR6.out (by simp))
      have hB7 := hide (blk (grown_of_below hb7) hB6.out (by simp))
      have hP7 := hide (ownsMap_below hP6.out hb7)
      have hE7 := hide (ownsMap_below hE6.out hb7)
      have hL7 := hide (hL6.out.kept (grown_of_below hb7) (by cases (Value.slice ao5 (seen.length + 1) cap5).ownBlock <;> simp))
      have K7 := hide (K6.out.below hb7)
      clear hb7
      have a2 : w7.cell? ⟨N, 2, none⟩ = some (.int .u64 j) := row_cell hN7.out (by rw [HZ6.out 2 (by omega), HJ.out]; exact S1.out.z2)
      have f2 := row_frozen (o := 2) hN7.out
      go_wp2_with fail
      as_aux_lemma =>
      have hg8 := grown_setCell w7 ⟨N, 2, none⟩ (.int .u64 (IntKind.u64.wrap (j + 1)))
      have hN8 := hide (row_setCell (o := 2) hN7.out (.int .u64 (IntKind.u64.wrap (j + 1))))
      generalize w7.setCell ⟨N, 2, none⟩ (.int .u64 (IntKind.u64.wrap (j + 1))) = w8 at *
      have nN : ∀ k, w.heap.size ≤ k → some k ≠ some N := by intro k hk e; cases e; omega
      have hR8 := hide (blk hg8 hR7.out (nN _ (Nat.le_refl _)))
      have hB8 := hide (blk hg8 hB7.out (nN _ (Nat.le_of_lt sz2.out)))
      have hP8 := hide (hP7.out.kept hg8 (by simpa using map_ne_row hP7.out hN7.out))
      have hE8 := hide (hE7.out.kept hg8 (by simpa using map_ne_row hE7.out hN7.out))
      have nL : (Value.slice ao5 (seen.length + 1) cap5).ownBlock = none ∨ (Value.slice ao5 (seen.length + 1) cap5).ownBlock ≠ some N := .inr (by intro e; have h1 := (hL7.out.lt N e).1; have h2 := S1.out.lt; omega)
      have hL8 := hide (hL7.out.kept hg8 nL)
      have K8 : Hid (Kept (XX N PM EM sl) w w8) := K7.out.grown hg8 (by rintro r e; cases e; exact .inr (.inl rfl))
      have HZ8 : Hid (∀ k, k ≠ 2 → (Z6.setIfInBounds 2 (.int .u64 (IntKind.u64.wrap (j + 1))))[k]? = Z6[k]?) := fun k hk => Array.getElem?_setIfInBounds_ne (by omega)
      have HZ82 : Hid ((Z6.setIfInBounds 2 (.int .u64 (IntKind.u64.wrap (j + 1))))[2]? = some (.int .u64 (IntKind.u64.wrap (j + 1)))) := by
        have := HZ6s.out
        show _ = _
        rw [Array.getElem?_setIfInBounds_self_of_lt (by omega)]
      have HZ8s : Hid ((Z6.setIfInBounds 2 (.int .u64 (IntKind.u64.wrap (j + 1)))).size = 48) := by show _ = _; rw [Array.size_setIfInBounds]; exact HZ6s.out
      generalize Z6.setIfInBounds 2 (.int .u64 (IntKind.u64.wrap (j + 1))) = Z8 at *
      clear a2 f2 hg8
      have b0 : w8.cell? ⟨N, 0, none⟩ = some (.slice ao5 (seen.length + 1) cap5) := row_cell hN8.out (by rw [HZ8.out 0 (by omega)]; exact HZ60.out)
      have b3 : w8.cell? ⟨N, 3, none⟩ = some (.int .i64 m) := row_cell hN8.out (by rw [HZ8.out 3 (by omega), HZ6.out 3 (by omega)]; exact S1.out.z3)
      have f3 := row_frozen (o := 3) hN8.out
      go_region
      as_aux_lemma =>
      obtain ⟨mm, HM⟩ : ∃ mm, Hid (mm = if m < (seen.length : Int) + 1 then (seen.length : Int) + 1 else m) := ⟨_, rfl⟩
      rw [← HM.out]
      have hg9 := grown_drew (grown_setCell w8 ⟨N, 3, none⟩ (.int .i64 mm))
      have hN9 : Hid ((w8.setCell ⟨N, 3, none⟩ (.int .i64 mm)).drew.heap[N]? = _) := row_setCell (o := 3) hN8.out (.int .i64 mm)
      generalize (w8.setCell ⟨N, 3, none⟩ (.int .i64 mm)).drew = w9 at *
      have hR9 := hide (blk hg9 hR8.out (nN _ (Nat.le_refl _)))
      have hB9 := hide (blk hg9 hB8.out (nN _ (Nat.le_of_lt sz2.out)))
      have hP9 := hide (hP8.out.kept hg9 (by simpa using map_ne_row hP8.out hN8.out))
      have hE9 := hide (hE8.out.kept hg9 (by simpa using map_ne_row hE8.out hN8.out))
      have hL9 := hide (hL8.out.kept hg9 nL)
      have K9 : Hid (Kept (XX N PM EM sl) w w9) := K8.out.grown hg9 (by rintro r e; cases e; exact .inr (.inl rfl))
      have HZ9 : Hid (∀ k, k ≠ 3 → (Z8.setIfInBounds 3 (.int .i64 mm))[k]? = Z8[k]?) := fun k hk => Array.getElem?_setIfInBounds_ne (by omega)
      have HZ93 : Hid ((Z8.setIfInBounds 3 (.int .i64 mm))[3]? = some (.int .i64 mm)) := by
        have := HZ8s.out
        show _ = _
        rw [Array.getElem?_setIfInBounds_self_of_lt (by omega)]
      have HZ9s : Hid ((Z8.setIfInBounds 3 (.int .i64 mm)).size = 48) := by show _ = _; rw [Array.size_setIfInBounds]; exact HZ8s.out
      generalize Z8.setIfInBounds 3 (.int .i64 mm) = Z9 at *
      have HnN := hide nN
      have HnL := hide nL
      clear b0 b3 f3 hg9 nN nL
      go_wp2_with (first
        | (refine wpList_load_mid rfl 46 (.tmp 6) rfl _ _ rfl _ _ (range_row hB9.out) Try.underlying46 rfl i46 ?_)
        | (refine wpList_store_row rfl 46 (.tmp 4) (.tmp 69) rfl w.heap.size 46 _ (inst id j).toList rfl rfl hR9.out rfl i46 rfl ?_))
      intro wA hA hgA hsA
      as_aux_lemma =>
      have hNA := hide (blk hgA hN9.out (fun e => HnN.out w.heap.size (Nat.le_refl _) e.symm))
      have nR1 := map_ne_row hP9.out hR9.out
      have nR2 := map_ne_row hE9.out hR9.out
      have hPA := hide (hP9.out.kept hgA (by simpa using nR1))
      have hEA := hide (hE9.out.kept hgA (by simpa using nR2))
      have KA : Hid (Kept (XX N PM EM sl) w wA) := K9.out.grown hgA (by rintro r e; cases e; exact .inl (Nat.le_refl _))
      have nLR : (Value.slice ao5 (seen.length + 1) cap5).ownBlock ≠ some w.heap.size := by
        by_cases hs : seen = []
        · intro e
          have h1 := HLT.out _ e
          have h2 := HBS.out hs
          omega
        · have h1 : 0 < seen.length := List.length_pos_iff.2 hs
          exact list_ne_row hL9.out (by omega) hR9.out rfl
      have hLA := hL9.out.kept hgA (.inr nLR)
      have HLA := hide hLA
      have hszA := KA.out.size
      clear hLA nLR nR1 nR2 hgA hsA
      go_wp2
      refine bodyPost_ret (results_row rfl _ _ w.heap.size (inst id j).toList _ rfl hA Try.underlying46 rfl i46) rfl ?_
      refine ⟨by rw [← HJ.out], Z9, .slice ao5 (seen.length + 1) cap5, DP.put (kl id) (.lit (.int .i64 (seen.length : Nat))), ?_, KA.out, fun hs k e => Nat.lt_of_lt_of_le (HBS.out hs) (HLT.out k e)⟩
      have zfar : ∀ k, k ≠ 0 → k ≠ 2 → k ≠ 3 → Z9[k]? = Z[k]? := fun k h0 h2 h3 => by rw [HZ9.out k h3, HZ8.out k h2, HZ6.out k h0]
      exact {
        hN := hNA.out
        zs := HZ9s.out
        z0 := by rw [HZ9.out 0 (by omega), HZ8.out 0 (by omega)]; exact HZ60.out
        z1 := by rw [zfar 1 (by omega) (by omega) (by omega)]; exact S1.out.z1
        z2 := by
          rw [HZ9.out 2 (by omega), HZ82.out, HJ.out, ju_succ]
          simp
        z3 := by
          rw [HZ93.out, HM.out, max_is]
        zz := fun k h1 h2 => by rw [zfar k (by omega) (by omega) (by omega)]; exact S1.out.zz k h1 h2
        z45 := by rw [zfar 45 (by omega) (by omega) (by omega)]; exact S1.out.z45
        hP := by have h1 := hPA.out; rw [show (seen ++ [id]).length = seen.length + 1 by simp]; exact h1
        rP := S1.out.rP.snoc (S1.out.hP.tidy law2) HN.out
        hE := hEA.out
        hL := by
          have h1 := HLA.out
          rw [show (seen ++ [id]).length = seen.length + 1 by simp, rows_snoc, Nat.zero_add, ← HJ.out]
          exact h1
        nilL := fun e => by simp at e
        ne := S1.out.ne
        lt := S1.out.lt
        le := Nat.le_trans H.out.le hszA }
end Go.Proofs.Qxb6618634a.JoinWalk
