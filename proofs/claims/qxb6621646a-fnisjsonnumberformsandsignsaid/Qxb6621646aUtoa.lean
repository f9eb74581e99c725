import Derived.Test.Qxb6621646aJsonCalls
import Derived.Test.Qxb6621646aForms
import Derived.Maps.AppendAt
import Derived.Laws.CopyOwn
namespace Go.Proofs.Qxb6621646a.JsonWalk
open Go.ChangeShapes Go.WideShapes Go.ChangeAt Go.RowKit Json
set_option linter.unusedVariables false
set_option linter.unusedSimpArgs false

theorem Try.info5 : (Try.prog.info? 5).map (fun i => (i.zero, i.size, i.bytes)) = some (some (.int .u8 0), 1, 1) := by kernel_rfl
theorem Try.size5 : (Try.prog.info? 5).map (·.size) = some 1 := by kernel_rfl

/-- the numbers as cells -/
def bv (l : List Int) : List Value := l.map (Value.int .u8)
theorem bv_append (l m : List Int) : bv (l ++ m) = bv l ++ bv m := by simp [bv]
theorem bv_length (l : List Int) : (bv l).length = l.length := by simp [bv]

theorem own_eq {w : World} {base : Nat} {v : Value} {n n' : Nat} {xs xs' : List Value} (h : w.ownsRow base 5 1 v n xs) (hn : n = n') (hx : xs = xs') : w.ownsRow base 5 1 v n' xs' := by
  subst hn; subst hx; exact h

/-- the buffer of 20 bytes: i free places, then the tail -/
def bufRow (i : Nat) (tail : List Int) : List Value := List.replicate i (.int .u8 0) ++ bv tail

theorem bufRow_set (i : Nat) (tail : List Int) (x : Int) (h : 1 ≤ i) : (bufRow i tail).set (i - 1) (.int .u8 x) = bufRow (i - 1) (x :: tail) := by
  obtain ⟨j, rfl⟩ : ∃ j, i = j + 1 := ⟨i - 1, by omega⟩
  unfold bufRow bv
  rw [Nat.add_sub_cancel, List.set_append_left _ _ (by simp), List.replicate_succ']
  rw [List.set_append_right _ _ (by simp)]
  simp
theorem bufRow_cur (i : Nat) (tail : List Int) (h : 1 ≤ i) : (bufRow i tail)[i - 1]? = some (.int .u8 0) := by
  unfold bufRow
  rw [List.getElem?_append_left (by simp; omega), List.getElem?_replicate, if_pos (by omega)]
theorem udecF_step (i q : Nat) (h : 1 ≤ i) (hq : ¬ q < 10) : udecF i q = udecF (i - 1) (q / 10) ++ [48 + ((q % 10 : Nat) : Int)] := by
  obtain ⟨j, rfl⟩ : ∃ j, i = j + 1 := ⟨i - 1, by omega⟩
  show (if q < 10 then _ else udecF j (q / 10) ++ _) = _
  rw [if_neg hq, Nat.add_sub_cancel]
theorem udecF_last (i q : Nat) (h : 1 ≤ i) (hq : q < 10) : udecF i q = [48 + (q : Int)] := by
  obtain ⟨j, rfl⟩ : ∃ j, i = j + 1 := ⟨i - 1, by omega⟩
  show (if q < 10 then [48 + (q : Int)] else _) = _
  rw [if_pos hq]
theorem pow_step (i q : Nat) (h : q < 10 ^ i) (hq : ¬ q < 10) (h1 : 1 ≤ i) : 2 ≤ i ∧ q / 10 < 10 ^ (i - 1) := by
  obtain ⟨j, rfl⟩ : ∃ j, i = j + 1 := ⟨i - 1, by omega⟩
  rw [Nat.pow_succ] at h
  rw [Nat.add_sub_cancel]
  refine ⟨?_, by omega⟩
  rcases Nat.eq_zero_or_pos j with rfl | h'
  · simp at h; omega
  · omega

theorem under34 : Try.prog.underlying 34 = some (.array (Try.prog.arrayLen 34) (Try.prog.elem 34)) := by kernel_rfl
theorem len34 : Try.prog.arrayLen 34 = 20 := by kernel_rfl
theorem elem34 : Try.prog.elem 34 = 5 := by kernel_rfl
theorem slice_buf (B i : Nat) (h : i < 20) (x : Int) (hx : x = (i : Int)) (w : World) :
    (Instr.sliceAt 34 (.pointer (some ⟨B, 0, none⟩)) (some (.int .i64 x)) none none).run Try.prog w = .ok (.slice (some ⟨B, i, none⟩) (20 - i) (20 - i)) w := by
  subst hx
  obtain ⟨i0, hi, hz0, hz1, hz2⟩ := info_parts Try.info5
  rw [run_sliceAt_array_l w 34 ⟨B, 0, none⟩ under34 .i64 (i : Int) (by omega) (by rw [len34]; omega), elem34, len34]
  have hne : ¬ 20 = i := by omega
  simp [sizeOf, typeInfo, hi, hz1, slicedAt, hne, Addr.add]
  intro h; exact h.symm
theorem u64_small (n : Nat) (h : n < 18446744073709551616) : IntKind.u64.wrap (n : Int) = n := by
  simp [IntKind.wrap, IntKind.bits, IntKind.signed]; omega

set_option maxRecDepth 100000 in
set_option maxHeartbeats 1000000 in
theorem utoa_any (base : Nat) (v : Value) (xs : List Int) (u : Nat) (w : World) (hown : w.ownsRow base 5 1 v xs.length (bv xs)) (hx : xs.length ≤ 1001) (hbase : base ≤ w.heap.size) (hu : Hid (u < 18446744073709551616)) :
    Calls Try.prog 8 #[v, .int .u64 u] w fun e w' => ∃ v', e = .returned v' ∧ w'.ownsRow base 5 1 v' (xs ++ udec u).length (bv (xs ++ udec u)) ∧ Below base w w' := by
  obtain ⟨i0, hi, hz0, hz1, hz2⟩ := info_parts Try.info5
  have HOWN := hide hown
  clear hown
  go_enter Try.func8, Try.ntmps8
  go_wp2
  go_loopw [1, 6] (fun uu ii wr => ∃ (i q : Nat) (tail : List Int), 1 ≤ i ∧ i ≤ 20 ∧ uu = .int .u64 q ∧ ii = .int .i64 i ∧ Hid (q < 10 ^ i ∧ q ≤ u) ∧ Hid (udec u = udecF i q ++ tail) ∧ Hid (tail.length = 20 - i) ∧ Hid (wr.ownsRow 0 34 1 (.slice (some ⟨w.heap.size, 0, none⟩) 20 20) 20 (bufRow i tail)) ∧ Hid (wr.ownsRow base 5 1 v xs.length (bv xs)) ∧ Below base w wr ∧ w.heap.size < wr.heap.size) (fun _ ii _ => (intOf ii).toNat)
  case atStart =>
    refine ⟨20, u, [], by omega, by omega, rfl, rfl, ?_, ?_, rfl, ?_, HOWN.out.alloc _, (Below.refl _ _).alloc hbase _, by simp⟩
    · exact ⟨by have := hu.out; omega, Nat.le_refl _⟩
    · show udec u = udecF 20 u ++ []; simp [udec]
    · exact World.ownsRow_lit (base := 0) (e := 34) (size := 1) w _ 20 (Nat.zero_le _) (by unfold maxLen; omega) rfl
  case round =>
    obtain ⟨i, q, tail, hi1, hi20, rfl, rfl, HQ, HU, HT, HB, HO, hB, hlt⟩ := hrel
    by_cases hq : q < 10
    · have hcur := HB.out.cellAt (i - 1) (by omega)
      rw [bufRow_cur i tail hi1] at hcur
      have hfr := HB.out.frozenAt (i - 1)
      have hsl := slice_buf w.heap.size (i - 1) (by omega) ((i : Int) - 1) (by omega)
      have HO2 := ownsRow_setCell_other HO.out (a := ⟨w.heap.size, i - 1, none⟩) (by intro e; have := (HOWN.out.lt _ e).2; simp at this) (.int .u8 (48 + (q : Int)))
      have HB2 := (HB.out.stored (i - 1) (.int .u8 (48 + (q : Int)))).1
      rw [bufRow_set i tail _ hi1] at HB2
      have hds : udec u = (48 + (q : Int)) :: tail := by rw [HU.out, udecF_last i q hi1 hq]; rfl
      obtain ⟨ds, HDS⟩ : ∃ ds, Hid (ds = (48 + (q : Int)) :: tail) := ⟨_, rfl⟩
      rw [← HDS.out] at HB2 hds
      have HDU := hide hds
      have HBX := hide HB2
      have HOX := hide HO2
      have hdl : ds.length = 20 - (i - 1) := by rw [HDS.out]; simp [HT.out]; omega
      have HDL := hide hdl
      have hB2 := hB.setCell (p := ⟨w.heap.size, i - 1, none⟩) (by simpa using hbase) (.int .u8 (48 + (q : Int)))
      have HNEW : Hid (∀ j x, (bv ds)[j]? = some x → (wr.setCell ⟨w.heap.size, i - 1, none⟩ (.int .u8 (48 + (q : Int)))).cell? ((⟨w.heap.size, i - 1, none⟩ : Addr).add j) = some x) := by
        intro j x hj
        have hjl : j < (bv ds).length := by
          rcases Nat.lt_or_ge j (bv ds).length with h | h
          · exact h
          · rw [List.getElem?_eq_none h] at hj; cases hj
        rw [bv_length] at hjl
        have e : (⟨w.heap.size, i - 1, none⟩ : Addr).add j = ⟨w.heap.size, i - 1 + j, none⟩ := by simp [Addr.add]
        rw [e, HBX.out.cellAt (i - 1 + j) (by omega)]
        unfold bufRow
        rw [List.getElem?_append_right (by simp), List.length_replicate, Nat.add_sub_cancel_left]
        exact hj
      clear hds HB2 HO2 hdl
      go_wp2_with (at_builtin; refine wpList_append_own_at _ rfl (.tmp 26) (.tmp 28) 22 rfl base 5 i0 (.int .u8 0) 1 1 Try.underlying22 hi hz0 hz1 hz2 rfl (by decide) v xs.length (bv xs) rfl HOX.out ⟨w.heap.size, i - 1, none⟩ (20 - (i - 1)) (20 - (i - 1)) (bv ds) rfl ?_ HNEW.out ?_ ?_ ?_ ?_ ?_)
      · rw [bv_length, HDL.out, Nat.mul_one]
      · exact ints_oneCell _ _
      · unfold maxLen; omega
      · omega
      · simp; omega
      intro v' w2 hown' hgrow' _ _
      have R2 : Below base w w2 := hB2.grown hgrow' (by simp; omega) (fun r hr => (HOX.out.lt r hr).1)
      have R1 : w2.ownsRow base 5 1 v' (xs ++ udec u).length (bv (xs ++ udec u)) := own_eq hown' (by rw [HDU.out]; simp [HDL.out]) (by rw [HDU.out, bv_append])
      clear hown' hgrow' hB2
      go_wp2
      go_ret
      exact ⟨v', rfl, R1, R2⟩
    · have hp := pow_step i q HQ.out.1 hq hi1
      have hcur := HB.out.cellAt (i - 1) (by omega)
      rw [bufRow_cur i tail hi1] at hcur
      have hfr := HB.out.frozenAt (i - 1)
      obtain ⟨hi2, hp2⟩ := hp
      have HP2 := hide hp2
      clear hp2
      go_wp2_with fail
      go_roundw
      case rel =>
        refine ⟨i - 1, q / 10, (48 + ((q % 10 : Nat) : Int)) :: tail, by omega, by omega, ?_, by go_num, ⟨HP2.out, by have := HQ.out.2; omega⟩, ?_, ?_, ?_, ?_, hB.setCell (by simpa using hbase) _, by simpa using hlt⟩
        · have e : ((q : Int) / 10) = ((q / 10 : Nat) : Int) := by omega
          rw [e, u64_small _ (by have := HQ.out.2; have := hu.out; omega)]
        · show udec u = _
          rw [HU.out, udecF_step i q hi1 hq]; simp
        · show _ = _
          simp [HT.out]; omega
        · show World.ownsRow _ _ _ _ _ _ _
          rw [← bufRow_set i tail _ hi1]
          have e : (48 + (q : Int) % 10) = 48 + ((q % 10 : Nat) : Int) := by omega
          rw [e]
          exact (HB.out.stored (i - 1) _).1
        · exact ownsRow_setCell_other HO.out (by intro e; have := (HOWN.out.lt _ e).2; simp at this) _
      case measure => simp [intOf]; omega

theorem wrap_pos (n : Int) (h0 : 0 ≤ n) (hn : n < 9223372036854775808) : IntKind.u64.wrap n = ((n.toNat : Nat) : Int) := by
  simp [IntKind.wrap, IntKind.bits, IntKind.signed]; omega
theorem wrap_neg (n : Int) (h0 : n < 0) (hn : -9223372036854775808 ≤ n) : IntKind.u64.wrap (IntKind.u64.wrap (wrap64 (-wrap64 (n + 1))) + 1) = (((-n).toNat : Nat) : Int) := by
  have e1 : wrap64 (n + 1) = n + 1 := by unfold wrap64; omega
  have e2 : wrap64 (-(n + 1)) = -(n + 1) := by unfold wrap64; omega
  rw [e1, e2]
  simp [IntKind.wrap, IntKind.bits, IntKind.signed]; omega
theorem idec_pos (n : Int) (h0 : 0 ≤ n) : idec n = udec n.toNat := by unfold idec; rw [if_neg (by omega)]
theorem idec_neg (n : Int) (h0 : n < 0) : idec n = 45 :: udec (-n).toNat := by unfold idec; rw [if_pos h0]

set_option maxHeartbeats 1000000 in
theorem itoa_pos (base : Nat) (v : Value) (xs : List Int) (n : Int) (w : World) (hown : w.ownsRow base 5 1 v xs.length (bv xs)) (hx : xs.length ≤ 1000) (hbase : base ≤ w.heap.size) (h0 : 0 ≤ n) (hn : Hid (n < 9223372036854775808)) :
    Calls Try.prog 7 #[v, .int .i64 n] w fun e w' => ∃ v', e = .returned v' ∧ w'.ownsRow base 5 1 v' (xs ++ idec n).length (bv (xs ++ idec n)) ∧ Below base w w' := by
  have HOWN := hide hown
  clear hown
  go_enter Try.func7, Try.ntmps7
  go_wp2_with fail
  rw [wrap_pos n h0 hn.out]
  refine (utoa_any base v xs n.toNat w HOWN.out (by omega) hbase (by have := hn.out; show _ < _; omega)).mono ?_
  rintro e w1 ⟨v', rfl, h1, h2⟩
  have H1 := hide h1
  clear h1
  go_wp2_with fail
  go_ret
  rw [idec_pos n h0]
  exact ⟨v', rfl, H1.out, h2⟩

set_option maxHeartbeats 1000000 in
theorem itoa_neg (base : Nat) (v : Value) (xs : List Int) (n : Int) (w : World) (hown : w.ownsRow base 5 1 v xs.length (bv xs)) (hx : xs.length ≤ 1000) (hbase : base ≤ w.heap.size) (h0 : n < 0) (hn : Hid (-9223372036854775808 ≤ n)) :
    Calls Try.prog 7 #[v, .int .i64 n] w fun e w' => ∃ v', e = .returned v' ∧ w'.ownsRow base 5 1 v' (xs ++ idec n).length (bv (xs ++ idec n)) ∧ Below base w w' := by
  obtain ⟨i0, hi, hz0, hz1, hz2⟩ := info_parts Try.info5
  have HOWN := hide hown
  clear hown
  go_enter Try.func7, Try.ntmps7
  go_wp2_with (at_builtin; refine wpList_append_own_at _ rfl (.tmp 7) (.tmp 8) 22 rfl base 5 i0 (.int .u8 0) 1 1 Try.underlying22 hi hz0 hz1 hz2 rfl (by decide) v xs.length (bv xs) rfl (HOWN.out.alloc _) ⟨w.heap.size, 0, none⟩ 1 1 [.int .u8 45] rfl rfl (cell_one_new _ _ _) ?_ ?_ ?_ ?_ ?_)
  · first | rfl | (intro u hu; simp at hu; subst hu; rfl)
  · unfold maxLen; omega
  · omega
  · simp; omega
  intro v' w2 hown' hgrow' _ _
  have R2 : Below base w w2 := ((Below.refl _ _).alloc hbase _).grown hgrow' (by simp; omega) (fun r hr => (HOWN.out.lt r hr).1)
  have HR1 : Hid (w2.ownsRow base 5 1 v' (xs ++ [45]).length (bv (xs ++ [45]))) := own_eq hown' (by simp) (by simp [bv])
  have hsz := hgrow'.size
  simp at hsz
  clear hown' hgrow'
  go_wp2_with fail
  rw [wrap_neg n h0 hn.out]
  refine (utoa_any base v' (xs ++ [45]) (-n).toNat w2 HR1.out (by simp; omega) (by omega) (by have := hn.out; show _ < _; omega)).mono ?_
  rintro e w1 ⟨v2, rfl, h1, h2⟩
  have H1 := hide h1
  clear h1
  go_wp2_with fail
  go_ret
  refine ⟨v2, rfl, ?_, R2.trans h2⟩
  rw [idec_neg n h0, show xs ++ 45 :: udec (-n).toNat = (xs ++ [45]) ++ udec (-n).toNat from by simp]
  exact H1.out

theorem itoa_any (base : Nat) (v : Value) (xs : List Int) (n : Int) (w : World) (hown : w.ownsRow base 5 1 v xs.length (bv xs)) (hx : xs.length ≤ 1000) (hbase : base ≤ w.heap.size) (hn : Hid (-9223372036854775808 ≤ n ∧ n < 9223372036854775808)) :
    Calls Try.prog 7 #[v, .int .i64 n] w fun e w' => ∃ v', e = .returned v' ∧ w'.ownsRow base 5 1 v' (xs ++ idec n).length (bv (xs ++ idec n)) ∧ Below base w w' := by
  by_cases h : n < 0
  · exact itoa_neg base v xs n w hown hx hbase h hn.out.1
  · exact itoa_pos base v xs n w hown hx hbase (by omega) hn.out.2

/-- isJSONNumber of a slice that the call itself has made, nil too -/
theorem isjson_own (base : Nat) (v : Value) (zs : List Int) (b : Bool) (w : World) (hown : w.ownsRow base 5 1 v zs.length (bv zs)) (hn : zs.length ≤ 1000000) (hr : ∀ c ∈ zs, 0 ≤ c ∧ c ≤ 255) (hb : P1 zs = b) :
    Calls Try.prog 9 #[v] w fun e w' => e = .returned (.bool b) ∧ Below w.heap.size w w' := by
  subst hb
  have h' := hown
  rcases hown.2 with ⟨rfl, h0⟩ | ⟨g, cap, cur, rfl, _⟩
  · obtain rfl : zs = [] := List.eq_nil_of_length_eq_zero h0
    exact isjson_nil w
  · refine isjson_any g _ cap zs w rfl hn (h'.lt g rfl).2 (fun j hj => ?_) (fun j => ?_)
    · rw [h'.cellAt j (by omega)]
      simp [bv, hj]
    · by_cases hj : j < zs.length
      · have := hr _ (List.getElem_mem hj)
        simpa [hj] using this
      · simp [List.getElem?_eq_none (Nat.le_of_not_lt hj)]

/-- what is owned stays owned where nothing that was there is written -/
theorem own_below {w w' : World} {base : Nat} {e : TypeId} {size : Nat} {v : Value} {n : Nat} {xs : List Value} (h : w.ownsRow base e size v n xs) (hb : Below w.heap.size w w') : w'.ownsRow base e size v n xs := by
  obtain ⟨h1, h2⟩ := h
  refine ⟨h1, ?_⟩
  rcases h2 with h2 | ⟨g, cap, cur, hv, hg, hh, r⟩
  · exact .inl h2
  · exact .inr ⟨g, cap, cur, hv, hg, by rw [hb.block g (lt_of_block hh)]; exact hh, r⟩
end Go.Proofs.Qxb6621646a.JsonWalk
