import Derived.Test.Qxb6621646aNamesBytes
import Derived.Laws.CopyOwn
import Derived.BigQuiet
import Derived.Deep.QuietTactic
import Derived.Maps.AppendAt
import Derived.LaidEqlPtr
namespace Go.Proofs.Qxb6621646a.NamesWalk
open Go.ChangeShapes Go.WideShapes Go.ChangeAt Go.RowKit Go.Maps
set_option linter.unusedVariables false
set_option linter.unusedSimpArgs false

theorem info9 : (Try.prog.info? 9).map (fun i => (i.zero, i.size, i.bytes)) = some (some (.string ByteArray.empty), 1, 16) := by kernel_rfl
theorem size9 : (Try.prog.info? 9).map (·.size) = some 1 := by kernel_rfl

theorem own_eq {w : World} {base : Nat} {v : Value} {n n' : Nat} {xs xs' : List Value} (h : w.ownsRow base 9 1 v n xs) (hn : n = n') (hx : xs = xs') : w.ownsRow base 9 1 v n' xs' := by
  subst hn; subst hx; exact h
theorem own_below {w w' : World} {base : Nat} {e : TypeId} {size : Nat} {v : Value} {n : Nat} {xs : List Value} (h : w.ownsRow base e size v n xs) (hb : Below w.heap.size w w') : w'.ownsRow base e size v n xs := by
  obtain ⟨h1, h2⟩ := h
  refine ⟨h1, ?_⟩
  rcases h2 with h2 | ⟨g, cap, cur, hv, hg, hh, r⟩
  · exact .inl h2
  · exact .inr ⟨g, cap, cur, hv, hg, by rw [hb.block g (lt_of_block hh)]; exact hh, r⟩
theorem own_shape {w : World} {base : Nat} {v : Value} {n : Nat} {xs : List Value} (h : w.ownsRow base 9 1 v n xs) : ∃ a c, v = .slice a n c ∧ (0 < n → ∃ g, a = some ⟨g, 0, none⟩) := by
  rcases h.2 with ⟨rfl, rfl⟩ | ⟨g, cap, cur, rfl, _⟩
  · exact ⟨_, _, rfl, fun h => by omega⟩
  · exact ⟨_, _, rfl, fun _ => ⟨g, rfl⟩⟩
theorem strs_oneCell (l : List ByteArray) : ∀ v ∈ sv l, v.oneCell' = true := by
  intro v hv
  simp [sv] at hv
  obtain ⟨s, _, rfl⟩ := hv
  rfl

/-- a slice of strings that came in -/
def IsStrs (w : World) (a : Option Addr) (len cap : Nat) (ss : List ByteArray) : Prop :=
  (a = none ∧ len = 0 ∧ cap = 0 ∧ ss = []) ∨
  ∃ x, a = some x ∧ len ≤ cap ∧ cap ≤ maxLen ∧ ss.length = cap ∧ (∀ i, i < ss.length → w.cell? (x.add i) = some (.string (ss.getD i ByteArray.empty))) ∧ ∀ s ∈ ss, s.size ≤ maxLen

theorem IsStrs.row {w : World} {a : Option Addr} {len cap : Nat} {ss : List ByteArray} (h : IsStrs w a len cap ss) : StrRow w a len ss := by
  intro hp
  rcases h with ⟨_, rfl, _⟩ | ⟨x, rfl, h1, h2, h3, h4, _⟩
  · omega
  · obtain ⟨b, off, spot⟩ := x
    have hspot : spot = none := by simpa [Addr.add] using World.cell?_spot (h4 0 (by omega))
    subst hspot
    exact ⟨b, off, rfl, fun i hi => by rw [← Go.WideShapes.add_plain]; exact h4 i (by omega)⟩
theorem IsStrs.sizes {w : World} {a : Option Addr} {len cap : Nat} {ss : List ByteArray} (h : IsStrs w a len cap ss) (i : Nat) : (ss.getD i ByteArray.empty).size ≤ maxLen := by
  rcases h with ⟨_, _, _, rfl⟩ | ⟨x, _, _, _, _, _, h5⟩
  · simp [maxLen]
  · by_cases hi : i < ss.length
    · have := h5 _ (List.getElem_mem hi); simpa [hi] using this
    · simp [List.getElem?_eq_none (Nat.le_of_not_lt hi), maxLen]
theorem IsStrs.len_le {w : World} {a : Option Addr} {len cap : Nat} {ss : List ByteArray} (h : IsStrs w a len cap ss) : len ≤ maxLen ∧ len ≤ ss.length := by
  rcases h with ⟨_, rfl, _, rfl⟩ | ⟨x, _, h1, h2, h3, _⟩
  · simp
  · omega
theorem IsStrs.below {w w' : World} {a : Option Addr} {len cap : Nat} {ss : List ByteArray} (h : IsStrs w a len cap ss) (hb : Below w.heap.size w w') : IsStrs w' a len cap ss := by
  rcases h with h | ⟨x, h0, h1, h2, h3, h4, h5⟩
  · exact .inl h
  · exact .inr ⟨x, h0, h1, h2, h3, fun i hi => (hb.cell (cell_lt (h4 i hi))).trans (h4 i hi), h5⟩

/-- the first i of L, the k-th one left out -/
def cutTo (k i : Nat) (L : List ByteArray) : List ByteArray := (L.take i).eraseIdx k
theorem cutTo_len (k i : Nat) (L : List ByteArray) : (cutTo k i L).length ≤ i := by
  unfold cutTo
  have := List.length_eraseIdx_le (L.take i) k
  simp at this
  omega
theorem cutTo_ne (k i : Nat) (L : List ByteArray) (hi : i < L.length) (h : i ≠ k) : cutTo k (i + 1) L = cutTo k i L ++ [L.getD i ByteArray.empty] := by
  unfold cutTo
  rw [List.take_succ_eq_append_getElem hi]
  have e : L.getD i ByteArray.empty = L[i] := by simp [hi]
  rw [e]
  by_cases hk : k < i
  · rw [List.eraseIdx_append_of_lt_length (by simp; omega)]
  · rw [List.eraseIdx_of_length_le (by simp; omega), List.eraseIdx_of_length_le (by simp; omega)]
theorem cutTo_eq (k : Nat) (L : List ByteArray) (hi : k < L.length) : cutTo k (k + 1) L = cutTo k k L := by
  unfold cutTo
  rw [List.take_succ_eq_append_getElem hi, List.eraseIdx_append_of_length_le (by simp; omega)]
  rw [List.eraseIdx_of_length_le (l := L.take k) (by simp; omega)]
  simp; omega
theorem cut_len (k : Nat) (L : List ByteArray) (hk : k < L.length) : (cutTo k L.length L).length = L.length - 1 := by
  unfold cutTo; rw [List.take_length, List.length_eraseIdx_of_lt hk]
/-- place p of what is left comes from place 'up k p' -/
def up (k p : Nat) : Nat := if p < k then p else p + 1
theorem cut_at (k : Nat) (L : List ByteArray) (hk : k < L.length) (p : Nat) (hp : p < L.length - 1) : (cutTo k L.length L).getD p ByteArray.empty = L.getD (up k p) ByteArray.empty := by
  unfold cutTo up
  rw [List.take_length]
  simp only [List.getD_eq_getElem?_getD, List.getElem?_eraseIdx]
  split <;> rfl
theorem up_lt (k n p : Nat) (hp : p < n - 1) : up k p < n := by unfold up; split <;> omega
theorem up_inj (k p r : Nat) (h : p ≠ r) : up k p ≠ up k r := by unfold up; split <;> split <;> omega
theorem up_ne (k p : Nat) : up k p ≠ k := by unfold up; split <;> omega
def down (k j : Nat) : Nat := if j < k then j else j - 1
theorem up_down (k j : Nat) (h : j ≠ k) : up k (down k j) = j := by
  unfold up down
  by_cases h1 : j < k
  · rw [if_pos h1, if_pos h1]
  · rw [if_neg h1, if_neg (by omega)]; omega
theorem down_lt (k j n : Nat) (hj : j < n) (hk : k < n) (h : j ≠ k) : down k j < n - 1 := by unfold down; split <;> omega
theorem str_eq {s t : ByteArray} (h : s = t) : (s.toList == t.toList) = true := by subst h; simp
theorem childAt_to (N M : Nat) (ks ms : List ByteArray) (k j : Nat) (s : ByteArray) (bk : Nat → Nat) (D : DataW Unit) (w : World) (h : Tab w N M ks ms k bk D) (hj : j < k) (hs : (ks.getD j ByteArray.empty).size ≤ maxLen) (he : Hid (s = ks.getD j ByteArray.empty)) :
    Calls Try.prog 15 #[.pointer (some ⟨N, 0, none⟩), .string s] w fun e w' => e = .returned (.pointer (some ⟨bk j, 0, none⟩)) ∧ w = w' := by
  rw [he.out]
  exact childAt_any N M ks ms k j bk D w h hj hs
theorem under32 : Try.prog.underlying 32 = some (.pointer 50) := by kernel_rfl
theorem some50 : (Try.prog.info? 50).isSome = true := by kernel_rfl
theorem eq_same (a : Addr) (w : World) : (binOp .eql 32 (.pointer (some a)) (.pointer (some a))).run Try.prog w = .ok (.bool true) w := by
  obtain ⟨j, hj⟩ := Option.isSome_iff_exists.1 some50
  exact run_eql_ptr_same w a under32 hj
theorem eq_nil (w : World) : (binOp .eql 32 (.pointer none) (.pointer none)).run Try.prog w = .ok (.bool true) w := by
  rw [run_eql_pointer_nil w 32 none (by kernel_rfl)]; rfl

set_option maxRecDepth 100000 in
set_option maxHeartbeats 8000000 in
theorem walkMain (a1 a2 : Option Addr) (n1 n2 c1 c2 : Nat) (k : Int) (q : ByteArray) (ks ms : List ByteArray) (w : World) (r1 : IsStrs w a1 n1 c1 ks) (r2 : IsStrs w a2 n2 c2 ms) (hq : q.size ≤ 262144) (h1 : n1 ≤ 4096) (h2 : n2 ≤ 4096) :
    Calls Try.prog 5 #[.slice a1 n1 c1, .slice a2 n2 c2, .int .i64 k, .string q] w fun e w' => e = .returned (.bool true) ∧ Below w.heap.size w w' := by
  obtain ⟨i0, hi, hz0, hz1, hz2⟩ := info_parts info9
  have HR1 := hide r1
  have HR2 := hide r2
  have HBY := hide (bytes_any a1 a2 n1 n2 c1 c2 k q ks ms w r1.row r2.row r1.len_le.1 r2.len_le.1 (by unfold maxLen; omega) r1.sizes r2.sizes)
  obtain ⟨KS, HKS⟩ : ∃ KS : List ByteArray, Hid (KS = ks.take n1) := ⟨ks.take n1, rfl⟩
  obtain ⟨MS, HMS⟩ : ∃ MS : List ByteArray, Hid (MS = ms.take n2) := ⟨ms.take n2, rfl⟩
  have HKSL : Hid (KS.length = n1) := by show _ = _; rw [HKS.out]; have := r1.len_le.2; simp; omega
  have HMSL : Hid (MS.length = n2) := by show _ = _; rw [HMS.out]; have := r2.len_le.2; simp; omega
  have HKSS : Hid (∀ i, (KS.getD i ByteArray.empty).size ≤ maxLen) := by
    intro i
    rw [HKS.out]
    by_cases hi : i < n1
    · have := r1.sizes i; simpa [hi] using this
    · simp [List.getElem?_take, hi, maxLen]
  clear r1 r2
  go_enter Try.func5, Try.ntmps5
  go_wp2_with fail
  refine HBY.out.mono ?_
  rintro e1 w1 ⟨⟨b, rfl⟩, rfl⟩
  clear HBY
  cases b
  · go_wp2_with fail
    go_ret
    exact ⟨rfl, Below.refl _ _⟩
  go_upto_region 5 with fail
  go_cut [47] (fun s wq => s = .bool a1.isSome ∧ w = wq)
  case first =>
    as_aux_lemma =>
    cases a1
    · go_wp2
      go_meet
      case rel => exact ⟨rfl, rfl⟩
    · go_wp2
      go_meet
      case rel => exact ⟨rfl, rfl⟩
  case rest =>
    as_aux_lemma =>
    obtain ⟨rfl, rfl⟩ := hcut
    go_upto_if 47 with fail
    go_cut [0, 9] (fun v0 v9 wq => Below w.heap.size w wq ∧ Hid (wq.ownsRow w.heap.size 9 1 v0 n1 (sv KS)))
    case first =>
      as_aux_lemma =>
      rcases HR1.out with ⟨rfl, rfl, rfl, rfl⟩ | ⟨x, rfl, hlc, hcm, hzl, hc, _⟩
      · go_wp2
        go_meet
        case rel => exact ⟨Below.refl _ _, by rw [HKS.out]; exact World.ownsRow_nil _ _ _ _⟩
      · have hcs : ∀ j v, (sv KS)[j]? = some v → w.cell? (x.add j) = some v := by
          intro j v hj
          rw [HKS.out] at hj
          simp only [sv, List.getElem?_map, List.getElem?_take, Option.map_eq_some_iff] at hj
          obtain ⟨u, hu, rfl⟩ := hj
          by_cases hjl : j < n1
          · rw [if_pos hjl] at hu
            have hjz : j < ks.length := by omega
            rw [hc j hjz]
            simp [hu]
          · rw [if_neg hjl] at hu; cases hu
        have HC := hide hcs
        have HM : Hid ((sv KS).length = n1) := by show _ = _; rw [sv_length, HKSL.out]
        clear hcs hc hzl
        obtain ⟨cs, Hcs⟩ : ∃ cs : List Value, Hid (cs = sv KS) := ⟨sv KS, rfl⟩
        rw [← Hcs.out] at HC HM
        go_wp2_with (at_make; refine wpList_make_full _ rfl _ _ 28 rfl w.heap.size 9 i0 (.string ByteArray.empty) 1 Try.underlying28 hi hz0 hz1 _ _ _ _ n1 rfl rfl rfl rfl ?_ ?_ ?_ ?_)
        · rw [hz2]; omega
        · unfold maxLen; omega
        · exact Nat.le_refl _
        intro w1 hown1 hgrow1
        rw [toList_madeCells_one] at hown1
        obtain ⟨-, hh⟩ := hown1
        have hh1 : w1.heap[w.heap.size]? = some (.cells (List.replicate n1 (Value.string ByteArray.empty)).toArray 9 (0, 0)) := by
          rcases hh with ⟨hh, _⟩ | ⟨g, cp, cur, hv, _, hg, _, _, hsz, ht⟩
          · simp at hh
          · simp only [Value.slice.injEq, Option.some.injEq, Addr.mk.injEq, and_true, true_and] at hv
            obtain ⟨rfl, rfl⟩ := hv
            rw [hg, ← ht, List.take_of_length_le (by simp; omega)]
        have hb1 : Below w.heap.size w w1 := (Below.refl _ _).grown hgrow1 (Nat.le_refl _) (by simp)
        have HC1 : Hid (∀ j v, cs[j]? = some v → w1.cell? (x.add j) = some v) := by
          intro j v hj
          exact hgrow1.cell (HC.out j v hj) (by simp)
        have HH1 := hide hh1
        clear hh hgrow1 hh1
        go_wp2_with (first
          | (refine wpList_copy_splice rfl (.tmp 51) (.tmp 52) 28 28 rfl 9 Try.underlying28 size9 _ _ _ _ _ _ rfl rfl w.heap.size 0 (List.replicate n1 (Value.string ByteArray.empty)) 9 HH1.out cs (HM.out.trans (Nat.min_self n1).symm) ?_ ?_ ?_ w.heap.size w hb1 (Nat.le_refl _) ?_))
        · intro _; exact HC1.out
        · have := HM.out; simp; omega
        · rw [Hcs.out]; exact strs_oneCell _
        intro w2 HG2 hB2
        have hsp : splice (List.replicate n1 (Value.string ByteArray.empty)) 0 cs = cs := by
          have := HM.out; unfold splice; simp; omega
        have hcl : cs.length = n1 := HM.out
        have hown2 : w2.ownsRow w.heap.size 9 1 (.slice (some ⟨w.heap.size, 0, none⟩) n1 n1) n1 cs :=
          ⟨by omega, .inr ⟨w.heap.size, n1, cs.toArray, rfl, Nat.le_refl _, by rw [HG2.out, hsp], Nat.le_refl _, by unfold maxLen; omega, by simp; omega, by rw [List.toList_toArray]; exact List.take_of_length_le (by omega)⟩⟩
        have HOW := hide hown2
        clear HC1 HH1 HG2 hsp hcl hb1 hown2
        go_wp2
        go_meet
        case rel => exact ⟨hB2, own_eq HOW.out rfl Hcs.out⟩
    case rest =>
      as_aux_lemma =>
      obtain ⟨hB1, HO0⟩ := hcut
      replace HR2 := hide (HR2.out.below hB1)
      obtain ⟨wb, rfl⟩ : ∃ wb : World, wb = wc := ⟨_, rfl⟩
      go_upto_region 9 with fail
      go_cut [56] (fun s wq => s = .bool a2.isSome ∧ wb = wq)
      case first =>
        as_aux_lemma =>
        cases a2
        · go_wp2
          go_meet
          case rel => exact ⟨rfl, rfl⟩
        · go_wp2
          go_meet
          case rel => exact ⟨rfl, rfl⟩
      case rest =>
        as_aux_lemma =>
        obtain ⟨rfl, rfl⟩ := hcut
        go_upto_if 56 with fail
        go_cut [1, 10] (fun v0 v9 wq => Below wb.heap.size wb wq ∧ Hid (wq.ownsRow wb.heap.size 9 1 v0 n2 (sv MS)))
        case first =>
          as_aux_lemma =>
          rcases HR2.out with ⟨rfl, rfl, rfl, rfl⟩ | ⟨x, rfl, hlc, hcm, hzl, hc, _⟩
          · go_wp2
            go_meet
            case rel => exact ⟨Below.refl _ _, by rw [HMS.out]; exact World.ownsRow_nil _ _ _ _⟩
          · have hcs : ∀ j v, (sv MS)[j]? = some v → wb.cell? (x.add j) = some v := by
              intro j v hj
              rw [HMS.out] at hj
              simp only [sv, List.getElem?_map, List.getElem?_take, Option.map_eq_some_iff] at hj
              obtain ⟨u, hu, rfl⟩ := hj
              by_cases hjl : j < n2
              · rw [if_pos hjl] at hu
                have hjz : j < ms.length := by omega
                rw [hc j hjz]
                simp [hu]
              · rw [if_neg hjl] at hu; cases hu
            have HC := hide hcs
            have HM : Hid ((sv MS).length = n2) := by show _ = _; rw [sv_length, HMSL.out]
            clear hcs hc hzl
            obtain ⟨cs, Hcs⟩ : ∃ cs : List Value, Hid (cs = sv MS) := ⟨sv MS, rfl⟩
            rw [← Hcs.out] at HC HM
            go_wp2_with (at_make; refine wpList_make_full _ rfl _ _ 28 rfl wb.heap.size 9 i0 (.string ByteArray.empty) 1 Try.underlying28 hi hz0 hz1 _ _ _ _ n2 rfl rfl rfl rfl ?_ ?_ ?_ ?_)
            · rw [hz2]; omega
            · unfold maxLen; omega
            · exact Nat.le_refl _
            intro w1 hown1 hgrow1
            rw [toList_madeCells_one] at hown1
            obtain ⟨-, hh⟩ := hown1
            have hh1 : w1.heap[wb.heap.size]? = some (.cells (List.replicate n2 (Value.string ByteArray.empty)).toArray 9 (0, 0)) := by
              rcases hh with ⟨hh, _⟩ | ⟨g, cp, cur, hv, _, hg, _, _, hsz, ht⟩
              · simp at hh
              · simp only [Value.slice.injEq, Option.some.injEq, Addr.mk.injEq, and_true, true_and] at hv
                obtain ⟨rfl, rfl⟩ := hv
                rw [hg, ← ht, List.take_of_length_le (by simp; omega)]
            have hb1 : Below wb.heap.size wb w1 := (Below.refl _ _).grown hgrow1 (Nat.le_refl _) (by simp)
            have HC1 : Hid (∀ j v, cs[j]? = some v → w1.cell? (x.add j) = some v) := by
              intro j v hj
              exact hgrow1.cell (HC.out j v hj) (by simp)
            have HH1 := hide hh1
            clear hh hgrow1 hh1
            go_wp2_with (first
              | (refine wpList_copy_splice rfl (.tmp 60) (.tmp 61) 28 28 rfl 9 Try.underlying28 size9 _ _ _ _ _ _ rfl rfl wb.heap.size 0 (List.replicate n2 (Value.string ByteArray.empty)) 9 HH1.out cs (HM.out.trans (Nat.min_self n2).symm) ?_ ?_ ?_ wb.heap.size wb hb1 (Nat.le_refl _) ?_))
            · intro _; exact HC1.out
            · have := HM.out; simp; omega
            · rw [Hcs.out]; exact strs_oneCell _
            intro w2 HG2 hB2
            have hsp : splice (List.replicate n2 (Value.string ByteArray.empty)) 0 cs = cs := by
              have := HM.out; unfold splice; simp; omega
            have hcl : cs.length = n2 := HM.out
            have hown2 : w2.ownsRow wb.heap.size 9 1 (.slice (some ⟨wb.heap.size, 0, none⟩) n2 n2) n2 cs :=
              ⟨by omega, .inr ⟨wb.heap.size, n2, cs.toArray, rfl, Nat.le_refl _, by rw [HG2.out, hsp], Nat.le_refl _, by unfold maxLen; omega, by simp; omega, by rw [List.toList_toArray]; exact List.take_of_length_le (by omega)⟩⟩
            have HOW := hide hown2
            clear HC1 HH1 HG2 hsp hcl hb1 hown2
            go_wp2
            go_meet
            case rel => exact ⟨hB2, own_eq HOW.out rfl Hcs.out⟩
        case rest =>
          as_aux_lemma =>
          obtain ⟨hB2, HO1⟩ := hcut
          replace HO0 := hide (own_below HO0.out hB2)
          have hB := hB1.trans (hB2.mono hB1.size)
          obtain ⟨a0, k0, rfl, hg0⟩ := own_shape HO0.out
          obtain ⟨a9, k9, rfl, hg9⟩ := own_shape HO1.out
          have HG0 := hide hg0
          have HG9 := hide hg9
          clear hg0 hg9
          obtain ⟨wd, rfl⟩ : ∃ wd : World, wd = wc := ⟨_, rfl⟩
          have HB := hide hB
          clear hB1 hB2 hB
          go_wp2
          go_loop [11, 12] (fun t i => ∃ (j : Nat) (z : Int), j ≤ n1 ∧ i = .int .i64 j ∧ t = .int .i64 z) (fun _ i => n1 - (intOf i).toNat)
          case atStart => exact ⟨0, _, Nat.zero_le _, rfl, rfl⟩
          case round =>
            as_aux_lemma =>
            obtain ⟨j, z, hj, rfl, rfl⟩ := hrel
            by_cases hlt : j < n1
            · obtain ⟨g, rfl⟩ := HG0.out (by omega)
              have hc := HO0.out.cellAt j (by omega)
              rw [sv_at KS j (by have := HKSL.out; omega)] at hc
              obtain ⟨s, Hs⟩ : ∃ s, Hid (s = KS.getD j ByteArray.empty) := ⟨_, rfl⟩
              rw [← Hs.out] at hc
              go_wp2
              all_goals first | (go_ret; exact ⟨rfl, HB.out⟩) | skip
              go_round
              case rel => exact ⟨j + 1, _, by omega, by go_num, rfl⟩
              case measure => simp [intOf]; omega
            · go_wp2
              clear hlt hj
              go_loop [11, 13] (fun t i => ∃ (j : Nat) (z : Int), j ≤ n2 ∧ i = .int .i64 j ∧ t = .int .i64 z) (fun _ i => n2 - (intOf i).toNat)
              case atStart => exact ⟨0, _, Nat.zero_le _, rfl, rfl⟩
              case round =>
                as_aux_lemma =>
                obtain ⟨j, z, hj, rfl, rfl⟩ := hrel
                by_cases hlt : j < n2
                · obtain ⟨g, rfl⟩ := HG9.out (by omega)
                  have hc := HO1.out.cellAt j (by omega)
                  rw [sv_at MS j (by have := HMSL.out; omega)] at hc
                  obtain ⟨s, Hs⟩ : ∃ s, Hid (s = MS.getD j ByteArray.empty) := ⟨_, rfl⟩
                  rw [← Hs.out] at hc
                  go_wp2
                  all_goals first | (go_ret; exact ⟨rfl, HB.out⟩) | skip
                  go_round
                  case rel => exact ⟨j + 1, _, by omega, by go_num, rfl⟩
                  case measure => simp [intOf]; omega
                · by_cases hnn : n1 = n2
                  · subst hnn
                    by_cases hk0 : k < 0
                    · go_wp2
                      go_ret
                      exact ⟨rfl, HB.out⟩
                    by_cases hk1 : (n1 : Int) ≤ k
                    · go_wp2
                      go_ret
                      exact ⟨rfl, HB.out⟩
                    obtain ⟨kk, rfl⟩ := Int.eq_ofNat_of_zero_le (show 0 ≤ k by omega)
                    have hkk : kk < n1 := by omega
                    clear hk0 hk1
                    obtain ⟨g0, rfl⟩ := HG0.out (by omega)
                    obtain ⟨g1, rfl⟩ := HG9.out (by omega)
                    clear HG0 HG9
                    go_wp2
                    go_loopw [14] (fun i wr => ∃ p : Nat, p ≤ n1 ∧ i = .int .i64 p ∧ Hid (∀ x y, x < y → y < n1 → x < p → KS.getD x ByteArray.empty ≠ KS.getD y ByteArray.empty ∧ MS.getD x ByteArray.empty ≠ MS.getD y ByteArray.empty) ∧ Hid (Below w.heap.size w wr) ∧ Hid (wr.ownsRow w.heap.size 9 1 (.slice (some ⟨g0, 0, none⟩) n1 k0) n1 (sv KS)) ∧ Hid (wr.ownsRow wb.heap.size 9 1 (.slice (some ⟨g1, 0, none⟩) n1 k9) n1 (sv MS))) (fun i _ => n1 - (intOf i).toNat)
                    case atStart => exact ⟨0, Nat.zero_le _, rfl, fun x y _ _ h => by omega, HB, HO0, HO1⟩
                    case round =>
                      as_aux_lemma =>
                      clear HB HO0 HO1
                      obtain ⟨p, hp, rfl, HDp, HB, HO0, HO1⟩ := hrel
                      obtain ⟨wo, rfl⟩ : ∃ wo : World, wo = wr := ⟨_, rfl⟩
                      by_cases hlp : p < n1
                      · have hlpb : decide ((p : Int) < (n1 : Int)) = true := by simp; omega
                        go_wp2
                        go_loopw [15] (fun j wr => ∃ r : Nat, p + 1 ≤ r ∧ r ≤ n1 ∧ j = .int .i64 r ∧ Hid (∀ y, p < y → y < r → KS.getD p ByteArray.empty ≠ KS.getD y ByteArray.empty ∧ MS.getD p ByteArray.empty ≠ MS.getD y ByteArray.empty) ∧ Hid (Below w.heap.size w wr) ∧ Hid (wr.ownsRow w.heap.size 9 1 (.slice (some ⟨g0, 0, none⟩) n1 k0) n1 (sv KS)) ∧ Hid (wr.ownsRow wb.heap.size 9 1 (.slice (some ⟨g1, 0, none⟩) n1 k9) n1 (sv MS))) (fun j _ => n1 - (intOf j).toNat)
                        case atStart => exact ⟨p + 1, Nat.le_refl _, by omega, by go_num, fun y h1 h2 => by omega, HB, HO0, HO1⟩
                        case round =>
                          as_aux_lemma =>
                          clear HB HO0 HO1
                          obtain ⟨r, hr1, hr2, rfl, HDr, HB, HO0, HO1⟩ := hrel
                          by_cases hlr : r < n1
                          · have hK1 := HO0.out.cellAt p (by omega)
                            have hK2 := HO0.out.cellAt r (by omega)
                            have hM1 := HO1.out.cellAt p (by omega)
                            have hM2 := HO1.out.cellAt r (by omega)
                            rw [sv_at KS p (by have := HKSL.out; omega)] at hK1
                            rw [sv_at KS r (by have := HKSL.out; omega)] at hK2
                            rw [sv_at MS p (by have := HMSL.out; omega)] at hM1
                            rw [sv_at MS r (by have := HMSL.out; omega)] at hM2
                            obtain ⟨x1, X1⟩ : ∃ s, Hid (s = KS.getD p ByteArray.empty) := ⟨_, rfl⟩
                            obtain ⟨x2, X2⟩ : ∃ s, Hid (s = KS.getD r ByteArray.empty) := ⟨_, rfl⟩
                            obtain ⟨y1, Y1⟩ : ∃ s, Hid (s = MS.getD p ByteArray.empty) := ⟨_, rfl⟩
                            obtain ⟨y2, Y2⟩ : ∃ s, Hid (s = MS.getD r ByteArray.empty) := ⟨_, rfl⟩
                            rw [← X1.out] at hK1
                            rw [← X2.out] at hK2
                            rw [← Y1.out] at hM1
                            rw [← Y2.out] at hM2
                            have i1 : (0 : Int) ≤ (p : Int) := by omega
                            have i2 : (p : Int) < (n1 : Int) := by omega
                            have i3 : (0 : Int) ≤ (r : Int) := by omega
                            have i4 : (r : Int) < (n1 : Int) := by omega
                            by_cases hkeq : x1 = x2
                            · have hkb := str_eq hkeq
                              clear hkeq
                              go_wp2
                              go_quiet (fail)
                              go_wp2
                              go_ret
                              exact ⟨rfl, below_drewN HB.out _⟩
                            · have hkb := str_ne hkeq
                              have HKN := hide hkeq
                              clear hkeq
                              by_cases hmeq : y1 = y2
                              · have hmb := str_eq hmeq
                                clear hmeq
                                go_wp2
                                go_quiet (fail)
                                go_wp2
                                go_ret
                                exact ⟨rfl, below_drewN HB.out _⟩
                              · have hmb := str_ne hmeq
                                have HMN := hide hmeq
                                clear hmeq
                                go_wp2
                                go_quiet (fail)
                                go_wp2
                                go_roundw
                                case rel =>
                                  refine ⟨r + 1, by omega, by omega, by go_num, ?_, below_drewN HB.out _, own_below HO0.out (below_drewN (Below.refl _ _) _), own_below HO1.out (below_drewN (Below.refl _ _) _)⟩
                                  intro y hy1 hy2
                                  by_cases hyr : y = r
                                  · subst hyr
                                    exact ⟨fun e => HKN.out (by rw [X1.out, X2.out, e]), fun e => HMN.out (by rw [Y1.out, Y2.out, e])⟩
                                  · exact HDr.out y hy1 (by omega)
                                case measure => simp [intOf]; omega
                          · go_wp2
                            go_roundw
                            case rel =>
                              refine ⟨p + 1, by omega, by go_num, ?_, HB, HO0, HO1⟩
                              intro x y hxy hy hx
                              by_cases hxp : x = p
                              · subst hxp
                                exact HDr.out y hxy (by omega)
                              · exact HDp.out x y hxy hy (by omega)
                            case measure => simp [intOf]; omega
                      · have HDIS : Hid (∀ x y, x < y → y < n1 → KS.getD x ByteArray.empty ≠ KS.getD y ByteArray.empty ∧ MS.getD x ByteArray.empty ≠ MS.getD y ByteArray.empty) := fun x y h1 h2 => HDp.out x y h1 h2 (by omega)
                        clear HDp
                        have hg0 := (HO0.out.lt g0 rfl).2
                        have hg1 := (HO1.out.lt g1 rfl).2
                        have hwsz := HB.out.size
                        go_wp2_with (at_make; refine wpList_make_own _ rfl _ (.tmp 152) 28 rfl wo.heap.size 9 i0 (.string ByteArray.empty) 1 Try.underlying28 hi hz0 hz1 _ _ _ n1 rfl rfl rfl ?_ ?_ ?_ ?_)
                        · rw [hz2]; omega
                        · unfold maxLen; omega
                        · exact Nat.le_refl _
                        intro w3 hown3 hgrow3
                        have HOK := hide hown3
                        replace HO0 := hide (HO0.out.kept hgrow3 (.inr (by simp [Value.ownBlock])))
                        replace HO1 := hide (HO1.out.kept hgrow3 (.inr (by simp [Value.ownBlock])))
                        replace HB := hide (HB.out.grown hgrow3 hwsz (by simp))
                        have hgk := (HOK.out.lt wo.heap.size rfl).2
                        have hw3 := HB.out.size
                        obtain ⟨GK, HGK⟩ : ∃ GK, Hid (GK = wo.heap.size) := ⟨_, rfl⟩
                        rw [← HGK.out] at HOK hgk hg0 hg1 hwsz ⊢
                        clear hown3 hgrow3
                        go_wp2_with (at_make; refine wpList_make_own _ rfl _ (.tmp 155) 28 rfl w3.heap.size 9 i0 (.string ByteArray.empty) 1 Try.underlying28 hi hz0 hz1 _ _ _ n1 rfl rfl rfl ?_ ?_ ?_ ?_)
                        · rw [hz2]; omega
                        · unfold maxLen; omega
                        · exact Nat.le_refl _
                        intro w4 hown4 hgrow4
                        have HOM := hide hown4
                        replace HO0 := hide (HO0.out.kept hgrow4 (.inr (by simp [Value.ownBlock])))
                        replace HO1 := hide (HO1.out.kept hgrow4 (.inr (by simp [Value.ownBlock])))
                        replace HOK := hide (HOK.out.kept hgrow4 (.inr (by simp [Value.ownBlock])))
                        replace HB := hide (HB.out.grown hgrow4 hw3 (by simp))
                        have hgm := (HOM.out.lt w3.heap.size rfl).2
                        obtain ⟨GM, HGM⟩ : ∃ GM, Hid (GM = w3.heap.size) := ⟨_, rfl⟩
                        rw [← HGM.out] at HOM hgk hgm ⊢
                        clear hown4 hgrow4 hw3
                        go_wp2
                        go_loopw [16, 17, 18] (fun ck cm i wr => ∃ j : Nat, j ≤ n1 ∧ i = .int .i64 j ∧ ck = .slice (some ⟨GK, 0, none⟩) (cutTo kk j KS).length n1 ∧ cm = .slice (some ⟨GM, 0, none⟩) (cutTo kk j MS).length n1 ∧ Hid (wr.ownsRow GK 9 1 (.slice (some ⟨GK, 0, none⟩) (cutTo kk j KS).length n1) (cutTo kk j KS).length (sv (cutTo kk j KS))) ∧ Hid (wr.ownsRow GM 9 1 (.slice (some ⟨GM, 0, none⟩) (cutTo kk j MS).length n1) (cutTo kk j MS).length (sv (cutTo kk j MS))) ∧ Hid (Below w.heap.size w wr) ∧ Hid (wr.ownsRow w.heap.size 9 1 (.slice (some ⟨g0, 0, none⟩) n1 k0) n1 (sv KS)) ∧ Hid (wr.ownsRow wb.heap.size 9 1 (.slice (some ⟨g1, 0, none⟩) n1 k9) n1 (sv MS))) (fun _ _ i _ => n1 - (intOf i).toNat)
                        case atStart => exact ⟨0, Nat.zero_le _, rfl, by simp [cutTo], by simp [cutTo], by simpa [cutTo, sv] using HOK, by simpa [cutTo, sv] using HOM, HB, HO0, HO1⟩
                        case round =>
                          as_aux_lemma =>
                          clear HB HO0 HO1 HOK HOM
                          obtain ⟨j, hj, rfl, rfl, rfl, HOK, HOM, HB, HO0, HO1⟩ := hrel
                          have hsGM := (HOM.out.lt GM rfl).2
                          have hsB := HB.out.size
                          by_cases hlj : j < n1
                          · by_cases hjk : j = kk
                            · have hjb : ((j : Int) != (kk : Int)) = false := by simp [hjk]
                              have HJK := hide hjk
                              clear hjk
                              go_wp2
                              go_roundw
                              case rel =>
                                have hjk := HJK.out
                                subst hjk
                                have e1 := cutTo_eq j KS (by have := HKSL.out; omega)
                                have e2 := cutTo_eq j MS (by have := HMSL.out; omega)
                                exact ⟨j + 1, by omega, by go_num, by rw [e1], by rw [e2], by rw [e1]; exact HOK, by rw [e2]; exact HOM, HB, HO0, HO1⟩
                              case measure => simp [intOf]; omega
                            · have hjb : ((j : Int) != (kk : Int)) = true := by simp; omega
                              have e1 := cutTo_ne kk j KS (by have := HKSL.out; omega) hjk
                              have e2 := cutTo_ne kk j MS (by have := HMSL.out; omega) hjk
                              have l1 := cutTo_len kk j KS
                              have l2 := cutTo_len kk j MS
                              have E1 := hide e1
                              have E2 := hide e2
                              clear e1 e2
                              have hK := HO0.out.cellAt j (by omega)
                              rw [sv_at KS j (by have := HKSL.out; omega)] at hK
                              obtain ⟨x1, X1⟩ : ∃ s, Hid (s = KS.getD j ByteArray.empty) := ⟨_, rfl⟩
                              obtain ⟨y1, Y1⟩ : ∃ s, Hid (s = MS.getD j ByteArray.empty) := ⟨_, rfl⟩
                              obtain ⟨CK, HCK⟩ : ∃ c, Hid (c = cutTo kk j KS) := ⟨_, rfl⟩
                              obtain ⟨CM, HCM⟩ : ∃ c, Hid (c = cutTo kk j MS) := ⟨_, rfl⟩
                              rw [← X1.out] at hK E1
                              rw [← Y1.out] at E2
                              rw [← HCK.out] at HOK l1 E1 ⊢
                              rw [← HCM.out] at HOM l2 E2 ⊢
                              go_wp2_with (at_builtin; refine wpList_append_fits _ rfl (.tmp 166) (.tmp 171) 28 rfl GK 9 i0 1 Try.underlying28 hi hz1 GK CK.length n1 (sv CK) rfl (HOK.out.alloc _) ⟨wr.heap.size, 0, none⟩ 1 1 [.string x1] rfl rfl (cell_one_new _ _ _) ?_ ?_ ?_)
                              · first | rfl | (intro u hu; simp at hu; subst hu; rfl)
                              · omega
                              intro w5 hown5 hgrow5
                              have hM0 := HO1.out.cellAt j (by omega)
                              rw [sv_at MS j (by have := HMSL.out; omega), ← Y1.out] at hM0
                              replace HO0 := hide ((HO0.out.alloc _).kept hgrow5 (.inr (by simp [Value.ownBlock]; omega)))
                              replace HO1 := hide ((HO1.out.alloc _).kept hgrow5 (.inr (by simp [Value.ownBlock]; omega)))
                              replace HOM := hide ((HOM.out.alloc _).kept hgrow5 (.inr (by simp [Value.ownBlock]; omega)))
                              have HOK5 := hide hown5
                              have hM := HO1.out.cellAt j (by omega)
                              rw [sv_at MS j (by have := HMSL.out; omega), ← Y1.out] at hM
                              have HB5 : Hid (Below w.heap.size w w5) := (HB.out.alloc hsB _).grown hgrow5 (by simp; omega) (fun r hr => by cases hr; omega)
                              have hs5 := HB5.out.size
                              have hs5b := (HOM.out.lt GM rfl).2
                              have hs5c := (HOK5.out.lt GK rfl).2
                              clear hown5 hgrow5 hM0 HOK HB hK
                              go_wp2_with (at_builtin; refine wpList_append_fits _ rfl (.tmp 173) (.tmp 178) 28 rfl GM 9 i0 1 Try.underlying28 hi hz1 GM CM.length n1 (sv CM) rfl (HOM.out.alloc _) ⟨w5.heap.size, 0, none⟩ 1 1 [.string y1] rfl rfl (cell_one_new _ _ _) ?_ ?_ ?_)
                              · first | rfl | (intro u hu; simp at hu; subst hu; rfl)
                              · omega
                              intro w6 hown6 hgrow6
                              replace HO0 := hide ((HO0.out.alloc _).kept hgrow6 (.inr (by simp [Value.ownBlock]; omega)))
                              replace HO1 := hide ((HO1.out.alloc _).kept hgrow6 (.inr (by simp [Value.ownBlock]; omega)))
                              replace HOK5 := hide ((HOK5.out.alloc _).kept hgrow6 (.inr (by simp [Value.ownBlock]; omega)))
                              have HOM6 := hide hown6
                              have HB6 : Hid (Below w.heap.size w w6) := (HB5.out.alloc hs5 _).grown hgrow6 (by simp; omega) (fun r hr => by cases hr; omega)
                              clear hown6 hgrow6 hM HOM HB5
                              go_wp2
                              go_roundw
                              case rel =>
                                refine ⟨j + 1, by omega, by go_num, by rw [E1.out]; simp, by rw [E2.out]; simp, ?_, ?_, HB6, HO0, HO1⟩
                                · show World.ownsRow _ _ _ _ _ _ _; rw [E1.out]; have := HOK5.out; simpa [sv] using this
                                · show World.ownsRow _ _ _ _ _ _ _; rw [E2.out]; have := HOM6.out; simpa [sv] using this
                              case measure => simp [intOf]; omega
                          · obtain rfl : n1 = j := by omega
                            go_wp2
                            have lK := cut_len kk KS (by have := HKSL.out; omega)
                            have lM := cut_len kk MS (by have := HMSL.out; omega)
                            have aK := cut_at kk KS (by have := HKSL.out; omega)
                            have aM := cut_at kk MS (by have := HMSL.out; omega)
                            rw [HKSL.out] at lK aK
                            rw [HMSL.out] at lM aM
                            obtain ⟨CK, HCK⟩ : ∃ c, Hid (c = cutTo kk n1 KS) := ⟨_, rfl⟩
                            obtain ⟨CM, HCM⟩ : ∃ c, Hid (c = cutTo kk n1 MS) := ⟨_, rfl⟩
                            rw [← HCK.out] at HOK lK aK ⊢
                            rw [← HCM.out] at HOM lM aM ⊢
                            have LK := hide lK
                            have LM := hide lM
                            have AK := hide aK
                            have AM := hide aM
                            clear lK lM aK aM
                            have HCS : Hid (∀ i, (CK.getD i ByteArray.empty).size ≤ maxLen) := by
                              intro i
                              by_cases hi : i < n1 - 1
                              · rw [AK.out i hi]; exact HKSS.out _
                              · simp [List.getElem?_eq_none (show CK.length ≤ i by rw [LK.out]; omega), maxLen]
                            have HDK : Hid (∀ x y, x < n1 → y < n1 → x ≠ y → KS.getD x ByteArray.empty ≠ KS.getD y ByteArray.empty ∧ MS.getD x ByteArray.empty ≠ MS.getD y ByteArray.empty) := by
                              intro x y hx hy hxy
                              rcases Nat.lt_or_gt_of_ne hxy with h | h
                              · exact HDIS.out x y h hy
                              · exact ⟨fun e => (HDIS.out y x h hx).1 e.symm, fun e => (HDIS.out y x h hx).2 e.symm⟩
                            have HNF : Hid (Calls Try.prog 13 #[.slice none 0 0, .slice (some ⟨g0, 0, none⟩) n1 k0, .slice (some ⟨g1, 0, none⟩) n1 k9] wr fun e w' =>
                                  e = .returned (.pointer (some ⟨wr.heap.size + 1, 0, none⟩)) ∧ (∃ bk D, Tab w' (wr.heap.size + 1) wr.heap.size KS MS n1 bk D) ∧ Below wr.heap.size wr w') :=
                              new_row g0 g1 n1 k0 k9 KS MS wr h1 (HO0.out.lt g0 rfl).2 (HO1.out.lt g1 rfl).2
                                (fun i hi => by rw [HO0.out.cellAt i (by omega), sv_at KS i (by have := HKSL.out; omega)]) (fun i hi => by rw [HO1.out.cellAt i (by omega), sv_at MS i (by have := HMSL.out; omega)]) HKSS.out (fun i j h h' => (HDIS.out i j h h').1)
                            have HNC : Hid (∀ W, Below wr.heap.size wr W → Calls Try.prog 13 #[.slice none 0 0, .slice (some ⟨GK, 0, none⟩) CK.length n1, .slice (some ⟨GM, 0, none⟩) CM.length n1] W fun e w' =>
                                  e = .returned (.pointer (some ⟨W.heap.size + 1, 0, none⟩)) ∧ (∃ bk D, Tab w' (W.heap.size + 1) W.heap.size CK CM CK.length bk D) ∧ Below W.heap.size W w') := by
                              intro W hb
                              have hk := own_below HOK.out hb
                              have hm := own_below HOM.out hb
                              have e : CM.length = CK.length := by rw [LK.out, LM.out]
                              rw [e] at hm ⊢
                              exact new_row GK GM CK.length n1 n1 CK CM W (by rw [LK.out]; omega) (hk.lt GK rfl).2 (hm.lt GM rfl).2
                                (fun i hi => by rw [hk.cellAt i (by omega), sv_at CK i hi]) (fun i hi => by rw [hm.cellAt i (by omega), sv_at CM i (by omega)]) HCS.out
                                (fun i j h h' => by
                                  rw [LK.out] at h'
                                  rw [AK.out i (by omega), AK.out j h']
                                  exact (HDK.out _ _ (up_lt kk n1 i (by omega)) (up_lt kk n1 j h') (up_inj kk i j (by omega))).1)
                            go_loop [19, 20] (fun jj i => ∃ r : Nat, r ≤ n1 ∧ jj = .int .i64 (-1) ∧ i = .int .i64 r ∧ Hid (∀ x, x < r → MS.getD x ByteArray.empty ≠ q)) (fun _ i => n1 - (intOf i).toNat)
                            case atStart => exact ⟨0, Nat.zero_le _, rfl, rfl, fun x hx => by omega⟩
                            case round =>
                              as_aux_lemma =>
                              obtain ⟨r, hr, rfl, rfl, HNO⟩ := hrel
                              by_cases hlr : r < n1
                              · have hM := HO1.out.cellAt r (by omega)
                                rw [sv_at MS r (by have := HMSL.out; omega)] at hM
                                obtain ⟨y1, Y1⟩ : ∃ s, Hid (s = MS.getD r ByteArray.empty) := ⟨_, rfl⟩
                                rw [← Y1.out] at hM
                                by_cases hyq : y1 = q
                                · have hyb := str_eq hyq
                                  have HYQ : Hid (MS.getD r ByteArray.empty = q) := by show _ = _; rw [← Y1.out]; exact hyq
                                  clear hyq
                                  have HUN : Hid (∀ i, i < n1 → i ≠ r → MS.getD i ByteArray.empty ≠ q) := by
                                    intro i hi hir e
                                    exact (HDK.out i r hi hlr hir).2 (by rw [e, HYQ.out])
                                  go_wp2_with fail
                                  refine HNF.out.mono ?_
                                  rintro e1 W1 ⟨rfl, ⟨bk, D, ht1⟩, hb1⟩
                                  have HT1 := hide ht1
                                  have HB1 := hide hb1
                                  clear ht1 hb1 hM
                                  go_wp2_with fail
                                  refine (HNC.out W1 HB1.out).mono ?_
                                  rintro e1 W2 ⟨rfl, ⟨bk2, D2, ht2⟩, hb2⟩
                                  have HT2 := hide ht2
                                  replace HT1 := hide (HT1.out.below hb2)
                                  replace HB1 := hide (HB1.out.trans (hb2.mono HB1.out.size))
                                  clear ht2 hb2
                                  go_wp2_with fail
                                  refine (find_call_yes _ _ KS MS n1 r bk D W2 HT1.out hlr q (fun i hi hir => (HDK.out i r hi hlr hir).1) HYQ.out HUN.out).mono ?_
                                  rintro e1 W3 ⟨rfl, hb3⟩
                                  replace HT1 := hide (HT1.out.below hb3)
                                  replace HT2 := hide (HT2.out.below hb3)
                                  replace HB1 := hide (HB1.out.trans (hb3.mono HB1.out.size))
                                  clear hb3
                                  by_cases hrk : r = kk
                                  · have hrb : ((r : Int) != (kk : Int)) = false := by simp [hrk]
                                    have HRK := hide hrk
                                    clear hrk
                                    go_wp2_with fail
                                    refine (find_call_no _ _ CK CM CK.length bk2 D2 W3 HT2.out q (fun i hi => by
                                      rw [LK.out] at hi
                                      rw [AM.out i hi]
                                      exact HUN.out _ (up_lt kk n1 i hi) (by rw [HRK.out]; exact up_ne kk i))).mono ?_
                                    rintro e1 W4 ⟨rfl, hb4⟩
                                    replace HT1 := hide (HT1.out.below hb4)
                                    replace HB1 := hide (HB1.out.trans (hb4.mono HB1.out.size))
                                    clear hb4
                                    have hKc := (own_below HO0.out HB1.out).cellAt r (by omega)
                                    rw [sv_at KS r (by have := HKSL.out; omega)] at hKc
                                    obtain ⟨x1, X1⟩ : ∃ s, Hid (s = KS.getD r ByteArray.empty) := ⟨_, rfl⟩
                                    rw [← X1.out] at hKc
                                    have hps := eq_same
                                    have hpn := eq_nil
                                    go_wp2_with fail
                                    refine (childAt_to _ _ KS MS n1 r x1 bk D W4 HT1.out hlr (HKSS.out r) X1).mono ?_
                                    rintro e1 W5 ⟨rfl, rfl⟩
                                    have HBF := HB.out.trans (HB1.out.mono HB.out.size)
                                    go_wp2_with fail
                                    go_ret
                                    exact ⟨rfl, HBF⟩
                                  · have hrb : ((r : Int) != (kk : Int)) = true := by simp; omega
                                    have hdl := down_lt kk r n1 hlr hkk hrk
                                    have hud := up_down kk r hrk
                                    have HUD := hide hud
                                    have HDL := hide hdl
                                    clear hud hdl hrk
                                    go_wp2_with fail
                                    refine (find_call_yes _ _ CK CM CK.length (down kk r) bk2 D2 W3 HT2.out (by rw [LK.out]; exact HDL.out) q (fun i hi hir => by
                                      rw [LK.out] at hi
                                      rw [AK.out i hi, AK.out _ HDL.out]
                                      exact (HDK.out _ _ (up_lt kk n1 i hi) (up_lt kk n1 _ HDL.out) (up_inj kk _ _ hir)).1) (by rw [AM.out _ HDL.out, HUD.out]; exact HYQ.out) (fun i hi hir => by
                                      rw [LK.out] at hi
                                      rw [AM.out i hi]
                                      exact HUN.out _ (up_lt kk n1 i hi) (by rw [← HUD.out]; exact up_inj kk _ _ hir))).mono ?_
                                    rintro e1 W4 ⟨rfl, hb4⟩
                                    replace HT1 := hide (HT1.out.below hb4)
                                    replace HT2 := hide (HT2.out.below hb4)
                                    replace HB1 := hide (HB1.out.trans (hb4.mono HB1.out.size))
                                    clear hb4
                                    have hKc := (own_below HO0.out HB1.out).cellAt r (by omega)
                                    rw [sv_at KS r (by have := HKSL.out; omega)] at hKc
                                    obtain ⟨x1, X1⟩ : ∃ s, Hid (s = KS.getD r ByteArray.empty) := ⟨_, rfl⟩
                                    rw [← X1.out] at hKc
                                    have X2 : Hid (x1 = CK.getD (down kk r) ByteArray.empty) := by show _ = _; rw [AK.out _ HDL.out, HUD.out]; exact X1.out
                                    have hps := eq_same
                                    have hpn := eq_nil
                                    go_wp2_with fail
                                    refine (childAt_to _ _ KS MS n1 r x1 bk D W4 HT1.out hlr (HKSS.out r) X1).mono ?_
                                    rintro e1 W5 ⟨rfl, rfl⟩
                                    go_wp2_with fail
                                    refine (childAt_to _ _ CK CM CK.length (down kk r) x1 bk2 D2 W4 HT2.out (by rw [LK.out]; exact HDL.out) (HCS.out _) X2).mono ?_
                                    rintro e1 W5 ⟨rfl, rfl⟩
                                    have HBF := HB.out.trans (HB1.out.mono HB.out.size)
                                    go_wp2_with fail
                                    go_ret
                                    exact ⟨rfl, HBF⟩
                                · have hyb := str_ne hyq
                                  have HYQ : Hid (MS.getD r ByteArray.empty ≠ q) := by show _ ≠ _; rw [← Y1.out]; exact hyq
                                  clear hyq
                                  go_wp2
                                  go_round
                                  case rel =>
                                    refine ⟨r + 1, by omega, rfl, by go_num, ?_⟩
                                    intro x hx
                                    by_cases hxr : x = r
                                    · subst hxr; exact HYQ.out
                                    · exact HNO.out x (by omega)
                                  case measure => simp [intOf]; omega
                              · have HUN : Hid (∀ i, i < n1 → MS.getD i ByteArray.empty ≠ q) := fun i hi => HNO.out i (by omega)
                                go_wp2_with fail
                                refine HNF.out.mono ?_
                                rintro e1 W1 ⟨rfl, ⟨bk, D, ht1⟩, hb1⟩
                                have HT1 := hide ht1
                                have HB1 := hide hb1
                                clear ht1 hb1
                                go_wp2_with fail
                                refine (HNC.out W1 HB1.out).mono ?_
                                rintro e1 W2 ⟨rfl, ⟨bk2, D2, ht2⟩, hb2⟩
                                have HT2 := hide ht2
                                replace HT1 := hide (HT1.out.below hb2)
                                replace HB1 := hide (HB1.out.trans (hb2.mono HB1.out.size))
                                clear ht2 hb2
                                go_wp2_with fail
                                refine (find_call_no _ _ KS MS n1 bk D W2 HT1.out q HUN.out).mono ?_
                                rintro e1 W3 ⟨rfl, hb3⟩
                                replace HT2 := hide (HT2.out.below hb3)
                                replace HB1 := hide (HB1.out.trans (hb3.mono HB1.out.size))
                                clear hb3
                                go_wp2_with fail
                                refine (find_call_no _ _ CK CM CK.length bk2 D2 W3 HT2.out q (fun i hi => by
                                  rw [LK.out] at hi
                                  rw [AM.out i hi]
                                  exact HUN.out _ (up_lt kk n1 i hi))).mono ?_
                                rintro e1 W4 ⟨rfl, hb4⟩
                                replace HB1 := hide (HB1.out.trans (hb4.mono HB1.out.size))
                                have HBF := HB.out.trans (HB1.out.mono HB.out.size)
                                clear hb4
                                have hpn := eq_nil
                                go_wp2_with fail
                                go_ret
                                exact ⟨rfl, HBF⟩
                  · have hne : ((n1 : Int) != (n2 : Int)) = true := by simp; omega
                    go_wp2
                    go_ret
                    exact ⟨rfl, HB.out⟩
end Go.Proofs.Qxb6621646a.NamesWalk
